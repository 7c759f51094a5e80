/-
  THE WALKS: charCountB1, longerThan, ZZLongerThan.
-/
import Derived.Test.Qxb6600041aLonger
namespace Go.Proofs.Qxb6600041a.Longer
open Go.ChangeShapes Go.WideShapes Go.ChangeAt Go.RowKit Go.Proofs.Qxb6600041a.Utf

set_option maxRecDepth 100000 in
set_option maxHeartbeats 1000000 in
theorem charCount_any (s : ByteArray) (w : World) (hm : s.size ≤ maxLen) :
    Calls Try.prog 11 #[.string s] w fun e w' => e = .returned (.int .i64 (rest s 0 : Nat)) ∧ w' = w := by
  have hm' := hm
  unfold maxLen at hm
  go_enter Try.func11, Try.ntmps11
  go_wp2
  go_loop [3, 4] (fun i c => ∃ (k x : Nat), k ≤ s.size ∧ x ≤ k ∧ i = .int .i64 k ∧ c = .int .i64 x ∧ Hid (x + rest s k = rest s 0)) (fun i _ => s.size - (intOf i).toNat)
  case atStart => exact ⟨0, 0, Nat.zero_le _, Nat.le_refl _, rfl, rfl, Nat.zero_add _⟩
  case round =>
    obtain ⟨k, x, hk, hx, rfl, rfl, hr⟩ := hrel
    by_cases hlt : k < s.size
    · have hb := width_bounds s k hlt
      have HS : Hid (rest s k = 1 + rest s (k + (Utf8.decode s k).2)) := rest_step s k hlt
      have HW := fun w => width_any s k w hm' hlt
      have HW' : Hid _ := HW
      clear HW
      obtain ⟨d, hd⟩ : ∃ d, d = (Utf8.decode s k).2 := ⟨_, rfl⟩
      rw [← hd] at hb HS HW'
      clear hd hm'
      go_wp2_with (go_at_call 22; refine (HW'.out _).mono ?_; rintro e w' ⟨rfl, rfl⟩)
      go_round
      case rel => exact ⟨k + d, x + 1, by omega, by omega, by go_num, by go_num, by have := HS.out; have := hr.out; unfold Hid; omega⟩
      case measure => simp [intOf]; omega
    · have he : rest s k = 0 := rest_end s k (by omega)
      have HE : Hid (rest s 0 = x) := by have := hr.out; unfold Hid; omega
      clear he hm'
      go_wp2
      go_ret
      rw [HE.out]
      exact ⟨rfl, rfl⟩

theorem frozen_iter (w : World) (s : ByteArray) (pos : Nat) (a : Addr) : (w.iter s pos).frozen? a = w.frozen? a := by
  by_cases h : a.block = w.heap.size
  · have e1 : (w.iter s pos).heap[a.block]? = some (.stringIter s pos) := by rw [h]; exact World.iter_heap w s pos
    have e2 : w.heap[a.block]? = none := by rw [h]; simp
    simp [World.frozen?, e1, e2]
  · exact World.frozen?_alloc_old _ _ _ h
theorem grown_iter (w : World) (s : ByteArray) (pos : Nat) : Grown w (w.iter s pos) :=
  ⟨World.keptBut_alloc w _ _, frozen_iter w s pos, by show w.heap.size ≤ (w.heap.push _).size; simp⟩

/-- What 'longerThan' answers. -/
def longB (s : ByteArray) (n : Int) : Bool := decide (0 < s.size ∧ n < (rest s 0 : Int))

theorem long_yes {s : ByteArray} {n : Int} {x k : Nat} (hk : k < s.size) (h : x + rest s k = rest s 0) (hn : n < (x : Int) + 1) : Ending.returned (.bool true) = .returned (.bool (longB s n)) := by
  have := rest_step s k hk
  have : longB s n = true := by unfold longB; exact decide_eq_true (by omega)
  rw [this]
theorem long_no {s : ByteArray} {n : Int} {x k : Nat} (hk : ¬ k < s.size) (h : x + rest s k = rest s 0) (hn : 0 < k → (x : Int) ≤ n) : Ending.returned (.bool false) = .returned (.bool (longB s n)) := by
  have := rest_end s k (by omega)
  have : longB s n = false := by unfold longB; exact decide_eq_false (by omega)
  rw [this]

set_option maxRecDepth 100000 in
set_option maxHeartbeats 1000000 in
theorem longer_any (s : ByteArray) (n : Int) (w : World) (hm : s.size ≤ maxLen) :
    Calls Try.prog 21 #[.string s, .int .i64 n] w fun e w' => e = .returned (.bool (longB s n)) ∧ Grown w w' := by
  unfold maxLen at hm
  go_enter Try.func21, Try.ntmps21
  go_wp2
  go_loopw [5] (fun c w' => ∃ (pos x : Nat), pos ≤ s.size ∧ x ≤ pos ∧ w' = w.iter s pos ∧ c = .int .i64 x ∧ Hid (x + rest s pos = rest s 0) ∧ Hid (0 < pos → (x : Int) ≤ n)) (fun _ w' => s.size - w'.iterPos w.heap.size)
  case atStart => exact ⟨0, 0, Nat.zero_le _, Nat.le_refl _, rfl, rfl, Nat.zero_add _, fun h => absurd h (Nat.lt_irrefl _)⟩
  case round =>
    obtain ⟨pos, x, hk, hx, rfl, rfl, hr, hn⟩ := hrel
    by_cases hp : pos < s.size
    · have hb := width_bounds s pos hp
      have HS : Hid (rest s pos = 1 + rest s (pos + (Utf8.decode s pos).2)) := rest_step s pos hp
      have hnx : ∀ ty, (Instr.next (.pointer (some ⟨w.heap.size, 0, none⟩)) true ty).run Try.prog (w.iter s pos) = _ := fun ty => run_next_any w s pos ty hp
      by_cases hq : n < (x : Int) + 1
      · go_wp2
        go_ret
        exact ⟨long_yes hp hr.out hq, grown_iter _ _ _⟩
      · go_wp2
        go_roundw
        case rel => exact ⟨pos + (Utf8.decode s pos).2, x + 1, by omega, by omega, rfl, by go_num, by have := HS.out; have := hr.out; unfold Hid; omega, fun _ => by omega⟩
        case measure => simp; omega
    · have hnx : ∀ ty, (Instr.next (.pointer (some ⟨w.heap.size, 0, none⟩)) true ty).run Try.prog (w.iter s pos) = _ := fun ty => run_next_end w s pos ty hp
      go_wp2
      go_ret
      exact ⟨long_no hp hr.out hn.out, grown_iter _ _ _⟩

set_option maxHeartbeats 400000 in
theorem zzlonger_any (s : ByteArray) (n : Int) (w : World) (hm : s.size ≤ maxLen) :
    Calls Try.prog 10 #[.string s, .int .i64 n] w fun e w' => e = .returned (.bool (longB s n)) ∧ Grown w w' := by
  go_enter Try.func10, Try.ntmps10
  go_wp2_with fail
  refine (longer_any s n _ hm).mono ?_
  rintro e w' ⟨rfl, hg⟩
  go_wp2
  go_ret
  exact ⟨rfl, hg⟩

theorem toList_nil {s : ByteArray} (h : s.toList = []) : s.size = 0 := by
  rw [ByteArray.toList_eq] at h
  have : s.data.toList.length = 0 := by rw [h]; rfl
  simpa using this
theorem toList_ne {s : ByteArray} (h : ¬ s.toList = []) : 0 < s.size := by
  apply Nat.pos_of_ne_zero
  intro e
  apply h
  rw [ByteArray.toList_eq]
  apply List.eq_nil_of_length_eq_zero
  simpa using e
theorem law_empty {s : ByteArray} {n : Int} (h : s.toList = []) : Ending.returned (.bool !longB s n) = .returned (.bool true) := by
  have := toList_nil h
  have : longB s n = false := by unfold longB; exact decide_eq_false (by omega)
  rw [this]; rfl
theorem law_some {s : ByteArray} {n : Int} (h : ¬ s.toList = []) : longB s n = decide (n < (rest s 0 : Int)) := by
  have := toList_ne h
  unfold longB
  rw [Bool.eq_iff_iff]
  simp
  omega

set_option maxRecDepth 100000 in
set_option maxHeartbeats 1000000 in
/-- THE LAW's WALK. -/
theorem law (a0 : ByteArray) (a1 : Int) (w0 : a0.size ≤ maxLen) (w : World) :
    Calls Try.prog 3 #[.string a0, .int .i64 a1] w fun e w' => e = .returned (.bool true) ∧ Grown w w' := by
  have m0 := w0
  unfold maxLen at w0
  by_cases hbig : 1048576 < a0.size
  · go_enter Try.func3, Try.ntmps3
    go_wp2_with (go_at_call 9; refine (Longer.bytes_no _ _ _ m0 hbig).mono ?_; rintro e w' ⟨rfl, rfl⟩)
    go_ret
    exact ⟨rfl, Grown.refl _⟩
  · have hs : a0.size ≤ 1048576 := by omega
    go_enter Try.func3, Try.ntmps3
    go_wp2_with (go_at_call 9; refine (Longer.bytes_yes _ _ _ hs).mono ?_; rintro e w' ⟨rfl, rfl⟩)
    refine (zzlonger_any a0 a1 _ m0).mono ?_
    rintro e w' ⟨rfl, hg⟩
    go_wp2_with fail
    · go_ret
      exact ⟨law_empty (by assumption), hg⟩
    · have he : ¬ a0.toList = [] := by assumption
      refine (charCount_any a0 _ m0).mono ?_
      rintro e w' ⟨rfl, rfl⟩
      rw [law_some he]
      go_wp2
      go_ret
      exact ⟨by simp [he], hg⟩
end Go.Proofs.Qxb6600041a.Longer
