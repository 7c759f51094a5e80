/-
  THE WALK: zqb1NumStep, class by class and state by state.
-/
import Derived.Test.Qxb6601343aRows
import Derived.Test.Qxb6601343aNum
import Derived.WalkKit
import Derived.ProofKit
import Derived.OpenShut
import Derived.ShutString
import Derived.WalkSpells
import Derived.WalkLawsBesides
namespace Go.Proofs.Qxb6601343a.Num
open Go.ChangeShapes Go.WideShapes Go.ChangeAt Go.RowKit

theorem cls_of (c : Int) : (c = 45) ∨ (c = 48) ∨ (49 ≤ c ∧ c ≤ 57) ∨ (c = 46) ∨ (c = 101) ∨ (c = 69) ∨ (c = 43) ∨ (cl c = 6 ∧ c < 48) ∨ (cl c = 6 ∧ 57 < c) := by
  by_cases h0 : c = 45
  · exact Or.inl h0
  by_cases hd : dig c
  · by_cases h48 : c = 48
    · exact Or.inr (Or.inl h48)
    · exact Or.inr (Or.inr (Or.inl (by omega)))
  by_cases h3 : c = 46
  · exact Or.inr (Or.inr (Or.inr (Or.inl h3)))
  by_cases h4 : c = 101 ∨ c = 69
  · rcases h4 with h | h
    · exact Or.inr (Or.inr (Or.inr (Or.inr (Or.inl h))))
    · exact Or.inr (Or.inr (Or.inr (Or.inr (Or.inr (Or.inl h)))))
  by_cases h5 : c = 43
  · exact Or.inr (Or.inr (Or.inr (Or.inr (Or.inr (Or.inr (Or.inl h5))))))
  by_cases h6 : c < 48
  · exact Or.inr (Or.inr (Or.inr (Or.inr (Or.inr (Or.inr (Or.inr (Or.inl ⟨cl_no h0 hd h3 h4 h5, h6⟩)))))))
  · exact Or.inr (Or.inr (Or.inr (Or.inr (Or.inr (Or.inr (Or.inr (Or.inr ⟨cl_no h0 hd h3 h4 h5, by omega⟩)))))))
theorem cl_6 {c : Int} (h : cl c = 6) : c ≠ 45 ∧ c ≠ 48 ∧ c ≠ 46 ∧ c ≠ 101 ∧ c ≠ 69 ∧ c ≠ 43 := by
  unfold cl at h
  split at h
  · cases h
  split at h
  · cases h
  split at h
  · cases h
  split at h
  · cases h
  split at h
  · cases h
  split at h
  · cases h
  omega

set_option maxRecDepth 100000 in
set_option maxHeartbeats 4000000 in
theorem step_45 (s : Nat) (c : Int) (w : World) (hs : s ≤ 8) (hc : c = 45) :
    Calls Try.prog 21 #[.int .i64 s, .int .u8 c] w fun e w' => e = .returned (.int .i64 (tbl s (cl c))) ∧ w' = w := by
  have hst : s = 0 ∨ s = 1 ∨ s = 2 ∨ s = 3 ∨ s = 4 ∨ s = 5 ∨ s = 6 ∨ s = 7 ∨ s = 8 := by omega
  clear hs
  subst hc
  have HCL : Hid (cl 45 = 0) := rfl
  rcases hst with rfl | rfl | rfl | rfl | rfl | rfl | rfl | rfl | rfl
  all_goals
    go_enter Try.func21, Try.ntmps21
    go_wp2
    go_ret
    rw [HCL.out]
    exact ⟨rfl, rfl⟩
set_option maxRecDepth 100000 in
set_option maxHeartbeats 4000000 in
theorem step_48 (s : Nat) (c : Int) (w : World) (hs : s ≤ 8) (hc : c = 48) :
    Calls Try.prog 21 #[.int .i64 s, .int .u8 c] w fun e w' => e = .returned (.int .i64 (tbl s (cl c))) ∧ w' = w := by
  have hst : s = 0 ∨ s = 1 ∨ s = 2 ∨ s = 3 ∨ s = 4 ∨ s = 5 ∨ s = 6 ∨ s = 7 ∨ s = 8 := by omega
  clear hs
  subst hc
  have HCL : Hid (cl 48 = 1) := rfl
  rcases hst with rfl | rfl | rfl | rfl | rfl | rfl | rfl | rfl | rfl
  all_goals
    go_enter Try.func21, Try.ntmps21
    go_wp2
    go_ret
    rw [HCL.out]
    exact ⟨rfl, rfl⟩
set_option maxRecDepth 100000 in
set_option maxHeartbeats 4000000 in
theorem step_49 (s : Nat) (c : Int) (w : World) (hs : s ≤ 8) (hc : 49 ≤ c ∧ c ≤ 57) :
    Calls Try.prog 21 #[.int .i64 s, .int .u8 c] w fun e w' => e = .returned (.int .i64 (tbl s (cl c))) ∧ w' = w := by
  have hst : s = 0 ∨ s = 1 ∨ s = 2 ∨ s = 3 ∨ s = 4 ∨ s = 5 ∨ s = 6 ∨ s = 7 ∨ s = 8 := by omega
  clear hs
  have HCL : Hid (cl c = 2) := cl_19 ⟨by omega, hc.2⟩ (by omega)
  obtain ⟨l49, l57⟩ := hc
  have l48 : 48 ≤ c := by omega
  have q45 : (c == 45) = false := beq_eq_false_iff_ne.2 (by omega)
  have q48 : (c == 48) = false := beq_eq_false_iff_ne.2 (by omega)
  have q46 : (c == 46) = false := beq_eq_false_iff_ne.2 (by omega)
  have q101 : (c == 101) = false := beq_eq_false_iff_ne.2 (by omega)
  have q69 : (c == 69) = false := beq_eq_false_iff_ne.2 (by omega)
  have q43 : (c == 43) = false := beq_eq_false_iff_ne.2 (by omega)
  rcases hst with rfl | rfl | rfl | rfl | rfl | rfl | rfl | rfl | rfl
  all_goals
    go_enter Try.func21, Try.ntmps21
    go_wp2
    go_ret
    rw [HCL.out]
    exact ⟨rfl, rfl⟩
set_option maxRecDepth 100000 in
set_option maxHeartbeats 4000000 in
theorem step_46 (s : Nat) (c : Int) (w : World) (hs : s ≤ 8) (hc : c = 46) :
    Calls Try.prog 21 #[.int .i64 s, .int .u8 c] w fun e w' => e = .returned (.int .i64 (tbl s (cl c))) ∧ w' = w := by
  have hst : s = 0 ∨ s = 1 ∨ s = 2 ∨ s = 3 ∨ s = 4 ∨ s = 5 ∨ s = 6 ∨ s = 7 ∨ s = 8 := by omega
  clear hs
  subst hc
  have HCL : Hid (cl 46 = 3) := rfl
  rcases hst with rfl | rfl | rfl | rfl | rfl | rfl | rfl | rfl | rfl
  all_goals
    go_enter Try.func21, Try.ntmps21
    go_wp2
    go_ret
    rw [HCL.out]
    exact ⟨rfl, rfl⟩
set_option maxRecDepth 100000 in
set_option maxHeartbeats 4000000 in
theorem step_101 (s : Nat) (c : Int) (w : World) (hs : s ≤ 8) (hc : c = 101) :
    Calls Try.prog 21 #[.int .i64 s, .int .u8 c] w fun e w' => e = .returned (.int .i64 (tbl s (cl c))) ∧ w' = w := by
  have hst : s = 0 ∨ s = 1 ∨ s = 2 ∨ s = 3 ∨ s = 4 ∨ s = 5 ∨ s = 6 ∨ s = 7 ∨ s = 8 := by omega
  clear hs
  subst hc
  have HCL : Hid (cl 101 = 4) := rfl
  rcases hst with rfl | rfl | rfl | rfl | rfl | rfl | rfl | rfl | rfl
  all_goals
    go_enter Try.func21, Try.ntmps21
    go_wp2
    go_ret
    rw [HCL.out]
    exact ⟨rfl, rfl⟩
set_option maxRecDepth 100000 in
set_option maxHeartbeats 4000000 in
theorem step_69 (s : Nat) (c : Int) (w : World) (hs : s ≤ 8) (hc : c = 69) :
    Calls Try.prog 21 #[.int .i64 s, .int .u8 c] w fun e w' => e = .returned (.int .i64 (tbl s (cl c))) ∧ w' = w := by
  have hst : s = 0 ∨ s = 1 ∨ s = 2 ∨ s = 3 ∨ s = 4 ∨ s = 5 ∨ s = 6 ∨ s = 7 ∨ s = 8 := by omega
  clear hs
  subst hc
  have HCL : Hid (cl 69 = 4) := rfl
  rcases hst with rfl | rfl | rfl | rfl | rfl | rfl | rfl | rfl | rfl
  all_goals
    go_enter Try.func21, Try.ntmps21
    go_wp2
    go_ret
    rw [HCL.out]
    exact ⟨rfl, rfl⟩
set_option maxRecDepth 100000 in
set_option maxHeartbeats 4000000 in
theorem step_43 (s : Nat) (c : Int) (w : World) (hs : s ≤ 8) (hc : c = 43) :
    Calls Try.prog 21 #[.int .i64 s, .int .u8 c] w fun e w' => e = .returned (.int .i64 (tbl s (cl c))) ∧ w' = w := by
  have hst : s = 0 ∨ s = 1 ∨ s = 2 ∨ s = 3 ∨ s = 4 ∨ s = 5 ∨ s = 6 ∨ s = 7 ∨ s = 8 := by omega
  clear hs
  subst hc
  have HCL : Hid (cl 43 = 5) := rfl
  rcases hst with rfl | rfl | rfl | rfl | rfl | rfl | rfl | rfl | rfl
  all_goals
    go_enter Try.func21, Try.ntmps21
    go_wp2
    go_ret
    rw [HCL.out]
    exact ⟨rfl, rfl⟩
set_option maxRecDepth 100000 in
set_option maxHeartbeats 4000000 in
theorem step_lo (s : Nat) (c : Int) (w : World) (hs : s ≤ 8) (hc : cl c = 6 ∧ c < 48) :
    Calls Try.prog 21 #[.int .i64 s, .int .u8 c] w fun e w' => e = .returned (.int .i64 (tbl s (cl c))) ∧ w' = w := by
  have hst : s = 0 ∨ s = 1 ∨ s = 2 ∨ s = 3 ∨ s = 4 ∨ s = 5 ∨ s = 6 ∨ s = 7 ∨ s = 8 := by omega
  clear hs
  obtain ⟨hcl, hside⟩ := hc
  obtain ⟨n45, n48, n46, n101, n69, n43⟩ := cl_6 hcl
  have HCL : Hid (cl c = 6) := hcl
  have dside : decide (48 ≤ c) = false := decide_eq_false (by omega)
  have q45 : (c == 45) = false := beq_eq_false_iff_ne.2 n45
  have q48 : (c == 48) = false := beq_eq_false_iff_ne.2 n48
  have q46 : (c == 46) = false := beq_eq_false_iff_ne.2 n46
  have q101 : (c == 101) = false := beq_eq_false_iff_ne.2 n101
  have q69 : (c == 69) = false := beq_eq_false_iff_ne.2 n69
  have q43 : (c == 43) = false := beq_eq_false_iff_ne.2 n43
  clear n45 n48 n46 n101 n69 n43 hcl
  rcases hst with rfl | rfl | rfl | rfl | rfl | rfl | rfl | rfl | rfl
  all_goals
    go_enter Try.func21, Try.ntmps21
    go_wp2
    go_ret
    rw [HCL.out]
    exact ⟨rfl, rfl⟩
set_option maxRecDepth 100000 in
set_option maxHeartbeats 4000000 in
theorem step_hi (s : Nat) (c : Int) (w : World) (hs : s ≤ 8) (hc : cl c = 6 ∧ 57 < c) :
    Calls Try.prog 21 #[.int .i64 s, .int .u8 c] w fun e w' => e = .returned (.int .i64 (tbl s (cl c))) ∧ w' = w := by
  have hst : s = 0 ∨ s = 1 ∨ s = 2 ∨ s = 3 ∨ s = 4 ∨ s = 5 ∨ s = 6 ∨ s = 7 ∨ s = 8 := by omega
  clear hs
  obtain ⟨hcl, hside⟩ := hc
  obtain ⟨n45, n48, n46, n101, n69, n43⟩ := cl_6 hcl
  have HCL : Hid (cl c = 6) := hcl
  have l48 : 48 ≤ c := by omega
  have dside : decide (c ≤ 57) = false := decide_eq_false (by omega)
  have q45 : (c == 45) = false := beq_eq_false_iff_ne.2 n45
  have q48 : (c == 48) = false := beq_eq_false_iff_ne.2 n48
  have q46 : (c == 46) = false := beq_eq_false_iff_ne.2 n46
  have q101 : (c == 101) = false := beq_eq_false_iff_ne.2 n101
  have q69 : (c == 69) = false := beq_eq_false_iff_ne.2 n69
  have q43 : (c == 43) = false := beq_eq_false_iff_ne.2 n43
  clear n45 n48 n46 n101 n69 n43 hcl
  rcases hst with rfl | rfl | rfl | rfl | rfl | rfl | rfl | rfl | rfl
  all_goals
    go_enter Try.func21, Try.ntmps21
    go_wp2
    go_ret
    rw [HCL.out]
    exact ⟨rfl, rfl⟩
theorem step_any (s : Nat) (c : Int) (w : World) (hs : s ≤ 8) :
    Calls Try.prog 21 #[.int .i64 s, .int .u8 c] w fun e w' => e = .returned (.int .i64 (tbl s (cl c))) ∧ w' = w := by
  rcases cls_of c with h | h | h | h | h | h | h | h | h
  · exact step_45 s c w hs h
  · exact step_48 s c w hs h
  · exact step_49 s c w hs h
  · exact step_46 s c w hs h
  · exact step_101 s c w hs h
  · exact step_69 s c w hs h
  · exact step_43 s c w hs h
  · exact step_lo s c w hs h
  · exact step_hi s c w hs h

/-- The bytes of a text as numbers. -/
def bs (s : ByteArray) : List Int := s.data.toList.map fun c => (c.toNat : Int)
theorem bs_len (s : ByteArray) : (bs s).length = s.size := by simp [bs]
theorem bs_at (s : ByteArray) (k : Nat) (h : k < s.size) : z (bs s) k = ((s[k]'h).toNat : Int) := by
  unfold z bs
  have h' : k < s.data.size := h
  rw [List.getD_eq_getElem?_getD, List.getElem?_map, Array.getElem?_toList, Array.getElem?_eq_getElem h']
  rfl

set_option maxRecDepth 100000 in
set_option maxHeartbeats 2000000 in
theorem accepts_any (s : ByteArray) (w : World) (hm : s.size ≤ 1048576) :
    Calls Try.prog 10 #[.string s] w fun e w' => e = .returned (.bool (A (bs s) 0 0)) ∧ w' = w := by
  go_enter Try.func10, Try.ntmps10
  go_wp2
  go_loop [3, 4] (fun s3 s4 => ∃ q k : Nat, q ≤ 8 ∧ k ≤ s.size ∧ s3 = .int .i64 q ∧ s4 = .int .i64 k ∧ Hid (A (bs s) 0 0 = A (bs s) q k)) (fun _ s4 => s.size - (intOf s4).toNat)
  case atStart => exact ⟨0, 0, by omega, Nat.zero_le _, rfl, rfl, rfl⟩
  case round =>
    obtain ⟨q, k, hq, hk, rfl, rfl, hr⟩ := hrel
    by_cases hlt : k < s.size
    · have HK : Hid (k < (bs s).length) := by unfold Hid; rw [bs_len]; exact hlt
      have HB : Hid _ := bs_at s k hlt
      obtain ⟨t1, t2⟩ := tbl_lt q hq _ (cl_lt (s[k].toNat : Int))
      obtain ⟨t, ht⟩ : ∃ t, t = tbl q (cl (s[k].toNat : Int)) := ⟨_, rfl⟩
      have HS : Hid _ := fun w => step_any q (s[k].toNat : Int) w hq
      rw [← ht] at HS t1 t2
      have HT : Hid _ := ht
      clear ht
      by_cases hneg : t < 0
      · have HF : Hid (A (bs s) 0 0 = false) := hr.out.trans (A_dead HK.out (by rw [HB.out, ← HT.out]; exact hneg))
        go_wp2_with (go_at_call 21; refine (HS.out _).mono ?_; rintro e w1 ⟨rfl, rfl⟩)
        go_ret
        rw [HF.out]
        exact ⟨rfl, rfl⟩
      · obtain ⟨m, rfl⟩ := Int.eq_ofNat_of_zero_le (by omega : 0 ≤ t)
        have HG : Hid (A (bs s) 0 0 = A (bs s) m (k + 1)) := hr.out.trans (A_go HK.out (by rw [HB.out, ← HT.out]))
        go_wp2_with (go_at_call 21; refine (HS.out _).mono ?_; rintro e w1 ⟨rfl, rfl⟩)
        go_round
        case rel => exact ⟨m, k + 1, by omega, by omega, rfl, by go_num, HG⟩
        case measure => simp [intOf]; omega
    · have HF : Hid (A (bs s) 0 0 = acc q) := hr.out.trans (A_stop (by rw [bs_len]; omega))
      clear hr
      have hst : q = 0 ∨ q = 1 ∨ q = 2 ∨ q = 3 ∨ q = 4 ∨ q = 5 ∨ q = 6 ∨ q = 7 ∨ q = 8 := by omega
      clear hq
      rcases hst with rfl | rfl | rfl | rfl | rfl | rfl | rfl | rfl | rfl
      all_goals
        go_wp2
        go_ret
        rw [HF.out]
        exact ⟨rfl, rfl⟩
end Go.Proofs.Qxb6601343a.Num
