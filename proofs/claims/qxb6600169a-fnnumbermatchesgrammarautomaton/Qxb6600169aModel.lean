/-
  THE WALK: jsonfieldB1NumberModel.
-/
import Derived.Test.Qxb6600169aNumW
namespace Go.Proofs.Qxb6600169a.Num
open Go.ChangeShapes Go.WideShapes Go.ChangeAt Go.RowKit

theorem cls_of (c : Int) : (c = 45) ∨ (c = 48) ∨ (49 ≤ c ∧ c ≤ 57) ∨ (c = 46) ∨ (c = 101) ∨ (c = 69) ∨ (c = 43) ∨ (cl c = 6 ∧ c < 48) ∨ (cl c = 6 ∧ 57 < c) := by
  by_cases h0 : c = 45
  · exact Or.inl h0
  by_cases hd : dig c
  · by_cases h48 : c = 48
    · exact Or.inr (Or.inl h48)
    · exact Or.inr (Or.inr (Or.inl (by unfold dig at hd; omega)))
  by_cases h3 : c = 46
  · exact Or.inr (Or.inr (Or.inr (Or.inl h3)))
  by_cases h4 : c = 101 ∨ c = 69
  · rcases h4 with h | h
    · exact Or.inr (Or.inr (Or.inr (Or.inr (Or.inl h))))
    · exact Or.inr (Or.inr (Or.inr (Or.inr (Or.inr (Or.inl h)))))
  by_cases h5 : c = 43
  · exact Or.inr (Or.inr (Or.inr (Or.inr (Or.inr (Or.inr (Or.inl h5))))))
  by_cases h6 : c < 48
  · exact Or.inr (Or.inr (Or.inr (Or.inr (Or.inr (Or.inr (Or.inr (Or.inl ⟨cl_no h0 hd h3 h4 h5, h6⟩)))))))
  · exact Or.inr (Or.inr (Or.inr (Or.inr (Or.inr (Or.inr (Or.inr (Or.inr ⟨cl_no h0 hd h3 h4 h5, by unfold dig at hd; omega⟩)))))))
theorem cl_6 {c : Int} (h : cl c = 6) : c ≠ 45 ∧ c ≠ 48 ∧ ¬ (48 ≤ c ∧ c ≤ 57) ∧ c ≠ 46 ∧ c ≠ 101 ∧ c ≠ 69 ∧ c ≠ 43 := by
  unfold cl at h
  split at h
  · cases h
  split at h
  · cases h
  split at h
  · cases h
  split at h
  · cases h
  split at h
  · cases h
  split at h
  · cases h
  omega

set_option maxRecDepth 100000 in
set_option maxHeartbeats 16000000 in
theorem model_any (g n cap : Nat) (zs : List Int) (i : Nat) (w : World) (hz : zs.length = n) (hn : n ≤ 1048576) (hi : i < n)
    (hc : ∀ i, i < n → w.cell? ⟨g, i, none⟩ = some (.int .u8 (z zs i))) :
    Calls Try.prog 22 #[.slice (some ⟨g, 0, none⟩) n cap, .int .i64 i] w fun e w' => e = .returned (.tuple #[.int .i64 ((A zs 0 i).1 : Nat), .bool (A zs 0 i).2]) ∧ w' = w := by
  have HZ : Hid _ := hz
  have HC : Hid _ := hc
  clear hz hc
  go_enter Try.func22, Try.ntmps22
  go_wp2
  go_loop [6, 7] (fun s6 s7 => ∃ s k : Nat, s ≤ 8 ∧ k ≤ n ∧ s6 = .int .i64 s ∧ s7 = .int .i64 k ∧ Hid (A zs 0 i = A zs s k)) (fun _ s7 => n - (intOf s7).toNat)
  case atStart => exact ⟨0, i, by omega, by omega, rfl, rfl, rfl⟩
  case round =>
    obtain ⟨s, k, hs, hk, rfl, rfl, hr⟩ := hrel
    have hst : s = 0 ∨ s = 1 ∨ s = 2 ∨ s = 3 ∨ s = 4 ∨ s = 5 ∨ s = 6 ∨ s = 7 ∨ s = 8 := by omega
    clear hs
    by_cases hkn : k < n
    · have hcell := HC.out k hkn
      have HK : Hid (k < zs.length) := by have := HZ.out; unfold Hid; omega
      obtain ⟨d, hdd⟩ : ∃ d, d = z zs k := ⟨_, rfl⟩
      rw [← hdd] at hcell
      have HCC : Hid (d = z zs k) := hdd
      clear hdd HC HZ
      rcases cls_of d with hcl | hcl | hcl | hcl | hcl | hcl | hcl | hcl | hcl
      · have HCL : Hid (cl (z zs k) = 0) := by rw [← HCC.out, hcl]; rfl
        subst hcl
        rcases hst with rfl | rfl | rfl | rfl | rfl | rfl | rfl | rfl | rfl
        · go_wp2
          go_round
          case rel => exact ⟨1, k + 1, by omega, by omega, rfl, by go_num, hr.out.trans (A_go HK.out (by rw [HCL.out]; rfl))⟩
          case measure => simp [intOf]; omega
        · have HF : Hid (A zs 0 i = fin 1 k) := hr.out.trans (A_dead HK.out (by rw [HCL.out]; decide))
          go_wp2
          go_ret2
          exact ⟨fin_ret (k := 0) (b := false) HF.out rfl, rfl⟩
        · have HF : Hid (A zs 0 i = fin 2 k) := hr.out.trans (A_dead HK.out (by rw [HCL.out]; decide))
          go_wp2
          go_ret2
          exact ⟨fin_ret (k := k) (b := true) HF.out rfl, rfl⟩
        · have HF : Hid (A zs 0 i = fin 3 k) := hr.out.trans (A_dead HK.out (by rw [HCL.out]; decide))
          go_wp2
          go_ret2
          exact ⟨fin_ret (k := k) (b := true) HF.out rfl, rfl⟩
        · have HF : Hid (A zs 0 i = fin 4 k) := hr.out.trans (A_dead HK.out (by rw [HCL.out]; decide))
          go_wp2
          go_ret2
          exact ⟨fin_ret (k := 0) (b := false) HF.out rfl, rfl⟩
        · have HF : Hid (A zs 0 i = fin 5 k) := hr.out.trans (A_dead HK.out (by rw [HCL.out]; decide))
          go_wp2
          go_ret2
          exact ⟨fin_ret (k := k) (b := true) HF.out rfl, rfl⟩
        · go_wp2
          go_round
          case rel => exact ⟨7, k + 1, by omega, by omega, rfl, by go_num, hr.out.trans (A_go HK.out (by rw [HCL.out]; rfl))⟩
          case measure => simp [intOf]; omega
        · have HF : Hid (A zs 0 i = fin 7 k) := hr.out.trans (A_dead HK.out (by rw [HCL.out]; decide))
          go_wp2
          go_ret2
          exact ⟨fin_ret (k := 0) (b := false) HF.out rfl, rfl⟩
        · have HF : Hid (A zs 0 i = fin 8 k) := hr.out.trans (A_dead HK.out (by rw [HCL.out]; decide))
          go_wp2
          go_ret2
          exact ⟨fin_ret (k := k) (b := true) HF.out rfl, rfl⟩
      · have HCL : Hid (cl (z zs k) = 1) := by rw [← HCC.out, hcl]; rfl
        subst hcl
        rcases hst with rfl | rfl | rfl | rfl | rfl | rfl | rfl | rfl | rfl
        · go_wp2
          go_round
          case rel => exact ⟨3, k + 1, by omega, by omega, rfl, by go_num, hr.out.trans (A_go HK.out (by rw [HCL.out]; rfl))⟩
          case measure => simp [intOf]; omega
        · go_wp2
          go_round
          case rel => exact ⟨3, k + 1, by omega, by omega, rfl, by go_num, hr.out.trans (A_go HK.out (by rw [HCL.out]; rfl))⟩
          case measure => simp [intOf]; omega
        · go_wp2
          go_round
          case rel => exact ⟨2, k + 1, by omega, by omega, rfl, by go_num, hr.out.trans (A_go HK.out (by rw [HCL.out]; rfl))⟩
          case measure => simp [intOf]; omega
        · have HF : Hid (A zs 0 i = fin 3 k) := hr.out.trans (A_dead HK.out (by rw [HCL.out]; decide))
          go_wp2
          go_ret2
          exact ⟨fin_ret (k := k) (b := true) HF.out rfl, rfl⟩
        · go_wp2
          go_round
          case rel => exact ⟨5, k + 1, by omega, by omega, rfl, by go_num, hr.out.trans (A_go HK.out (by rw [HCL.out]; rfl))⟩
          case measure => simp [intOf]; omega
        · go_wp2
          go_round
          case rel => exact ⟨5, k + 1, by omega, by omega, rfl, by go_num, hr.out.trans (A_go HK.out (by rw [HCL.out]; rfl))⟩
          case measure => simp [intOf]; omega
        · go_wp2
          go_round
          case rel => exact ⟨8, k + 1, by omega, by omega, rfl, by go_num, hr.out.trans (A_go HK.out (by rw [HCL.out]; rfl))⟩
          case measure => simp [intOf]; omega
        · go_wp2
          go_round
          case rel => exact ⟨8, k + 1, by omega, by omega, rfl, by go_num, hr.out.trans (A_go HK.out (by rw [HCL.out]; rfl))⟩
          case measure => simp [intOf]; omega
        · go_wp2
          go_round
          case rel => exact ⟨8, k + 1, by omega, by omega, rfl, by go_num, hr.out.trans (A_go HK.out (by rw [HCL.out]; rfl))⟩
          case measure => simp [intOf]; omega
      · have HCL : Hid (cl (z zs k) = 2) := by rw [← HCC.out]; exact cl_19 ⟨by omega, hcl.2⟩ (by omega)
        obtain ⟨l49, l57⟩ := hcl
        have l48 : 48 ≤ d := by omega
        have q45 : (d == 45) = false := beq_eq_false_iff_ne.2 (by omega)
        have q48 : (d == 48) = false := beq_eq_false_iff_ne.2 (by omega)
        have q46 : (d == 46) = false := beq_eq_false_iff_ne.2 (by omega)
        have q101 : (d == 101) = false := beq_eq_false_iff_ne.2 (by omega)
        have q69 : (d == 69) = false := beq_eq_false_iff_ne.2 (by omega)
        have q43 : (d == 43) = false := beq_eq_false_iff_ne.2 (by omega)
        rcases hst with rfl | rfl | rfl | rfl | rfl | rfl | rfl | rfl | rfl
        · go_wp2
          go_round
          case rel => exact ⟨2, k + 1, by omega, by omega, rfl, by go_num, hr.out.trans (A_go HK.out (by rw [HCL.out]; rfl))⟩
          case measure => simp [intOf]; omega
        · go_wp2
          go_round
          case rel => exact ⟨2, k + 1, by omega, by omega, rfl, by go_num, hr.out.trans (A_go HK.out (by rw [HCL.out]; rfl))⟩
          case measure => simp [intOf]; omega
        · go_wp2
          go_round
          case rel => exact ⟨2, k + 1, by omega, by omega, rfl, by go_num, hr.out.trans (A_go HK.out (by rw [HCL.out]; rfl))⟩
          case measure => simp [intOf]; omega
        · have HF : Hid (A zs 0 i = fin 3 k) := hr.out.trans (A_dead HK.out (by rw [HCL.out]; decide))
          go_wp2
          go_ret2
          exact ⟨fin_ret (k := k) (b := true) HF.out rfl, rfl⟩
        · go_wp2
          go_round
          case rel => exact ⟨5, k + 1, by omega, by omega, rfl, by go_num, hr.out.trans (A_go HK.out (by rw [HCL.out]; rfl))⟩
          case measure => simp [intOf]; omega
        · go_wp2
          go_round
          case rel => exact ⟨5, k + 1, by omega, by omega, rfl, by go_num, hr.out.trans (A_go HK.out (by rw [HCL.out]; rfl))⟩
          case measure => simp [intOf]; omega
        · go_wp2
          go_round
          case rel => exact ⟨8, k + 1, by omega, by omega, rfl, by go_num, hr.out.trans (A_go HK.out (by rw [HCL.out]; rfl))⟩
          case measure => simp [intOf]; omega
        · go_wp2
          go_round
          case rel => exact ⟨8, k + 1, by omega, by omega, rfl, by go_num, hr.out.trans (A_go HK.out (by rw [HCL.out]; rfl))⟩
          case measure => simp [intOf]; omega
        · go_wp2
          go_round
          case rel => exact ⟨8, k + 1, by omega, by omega, rfl, by go_num, hr.out.trans (A_go HK.out (by rw [HCL.out]; rfl))⟩
          case measure => simp [intOf]; omega
      · have HCL : Hid (cl (z zs k) = 3) := by rw [← HCC.out, hcl]; rfl
        subst hcl
        rcases hst with rfl | rfl | rfl | rfl | rfl | rfl | rfl | rfl | rfl
        · have HF : Hid (A zs 0 i = fin 0 k) := hr.out.trans (A_dead HK.out (by rw [HCL.out]; decide))
          go_wp2
          go_ret2
          exact ⟨fin_ret (k := 0) (b := false) HF.out rfl, rfl⟩
        · have HF : Hid (A zs 0 i = fin 1 k) := hr.out.trans (A_dead HK.out (by rw [HCL.out]; decide))
          go_wp2
          go_ret2
          exact ⟨fin_ret (k := 0) (b := false) HF.out rfl, rfl⟩
        · go_wp2
          go_round
          case rel => exact ⟨4, k + 1, by omega, by omega, rfl, by go_num, hr.out.trans (A_go HK.out (by rw [HCL.out]; rfl))⟩
          case measure => simp [intOf]; omega
        · go_wp2
          go_round
          case rel => exact ⟨4, k + 1, by omega, by omega, rfl, by go_num, hr.out.trans (A_go HK.out (by rw [HCL.out]; rfl))⟩
          case measure => simp [intOf]; omega
        · have HF : Hid (A zs 0 i = fin 4 k) := hr.out.trans (A_dead HK.out (by rw [HCL.out]; decide))
          go_wp2
          go_ret2
          exact ⟨fin_ret (k := 0) (b := false) HF.out rfl, rfl⟩
        · have HF : Hid (A zs 0 i = fin 5 k) := hr.out.trans (A_dead HK.out (by rw [HCL.out]; decide))
          go_wp2
          go_ret2
          exact ⟨fin_ret (k := k) (b := true) HF.out rfl, rfl⟩
        · have HF : Hid (A zs 0 i = fin 6 k) := hr.out.trans (A_dead HK.out (by rw [HCL.out]; decide))
          go_wp2
          go_ret2
          exact ⟨fin_ret (k := 0) (b := false) HF.out rfl, rfl⟩
        · have HF : Hid (A zs 0 i = fin 7 k) := hr.out.trans (A_dead HK.out (by rw [HCL.out]; decide))
          go_wp2
          go_ret2
          exact ⟨fin_ret (k := 0) (b := false) HF.out rfl, rfl⟩
        · have HF : Hid (A zs 0 i = fin 8 k) := hr.out.trans (A_dead HK.out (by rw [HCL.out]; decide))
          go_wp2
          go_ret2
          exact ⟨fin_ret (k := k) (b := true) HF.out rfl, rfl⟩
      · have HCL : Hid (cl (z zs k) = 4) := by rw [← HCC.out, hcl]; rfl
        subst hcl
        rcases hst with rfl | rfl | rfl | rfl | rfl | rfl | rfl | rfl | rfl
        · have HF : Hid (A zs 0 i = fin 0 k) := hr.out.trans (A_dead HK.out (by rw [HCL.out]; decide))
          go_wp2
          go_ret2
          exact ⟨fin_ret (k := 0) (b := false) HF.out rfl, rfl⟩
        · have HF : Hid (A zs 0 i = fin 1 k) := hr.out.trans (A_dead HK.out (by rw [HCL.out]; decide))
          go_wp2
          go_ret2
          exact ⟨fin_ret (k := 0) (b := false) HF.out rfl, rfl⟩
        · go_wp2
          go_round
          case rel => exact ⟨6, k + 1, by omega, by omega, rfl, by go_num, hr.out.trans (A_go HK.out (by rw [HCL.out]; rfl))⟩
          case measure => simp [intOf]; omega
        · go_wp2
          go_round
          case rel => exact ⟨6, k + 1, by omega, by omega, rfl, by go_num, hr.out.trans (A_go HK.out (by rw [HCL.out]; rfl))⟩
          case measure => simp [intOf]; omega
        · have HF : Hid (A zs 0 i = fin 4 k) := hr.out.trans (A_dead HK.out (by rw [HCL.out]; decide))
          go_wp2
          go_ret2
          exact ⟨fin_ret (k := 0) (b := false) HF.out rfl, rfl⟩
        · go_wp2
          go_round
          case rel => exact ⟨6, k + 1, by omega, by omega, rfl, by go_num, hr.out.trans (A_go HK.out (by rw [HCL.out]; rfl))⟩
          case measure => simp [intOf]; omega
        · have HF : Hid (A zs 0 i = fin 6 k) := hr.out.trans (A_dead HK.out (by rw [HCL.out]; decide))
          go_wp2
          go_ret2
          exact ⟨fin_ret (k := 0) (b := false) HF.out rfl, rfl⟩
        · have HF : Hid (A zs 0 i = fin 7 k) := hr.out.trans (A_dead HK.out (by rw [HCL.out]; decide))
          go_wp2
          go_ret2
          exact ⟨fin_ret (k := 0) (b := false) HF.out rfl, rfl⟩
        · have HF : Hid (A zs 0 i = fin 8 k) := hr.out.trans (A_dead HK.out (by rw [HCL.out]; decide))
          go_wp2
          go_ret2
          exact ⟨fin_ret (k := k) (b := true) HF.out rfl, rfl⟩
      · have HCL : Hid (cl (z zs k) = 4) := by rw [← HCC.out, hcl]; rfl
        subst hcl
        rcases hst with rfl | rfl | rfl | rfl | rfl | rfl | rfl | rfl | rfl
        · have HF : Hid (A zs 0 i = fin 0 k) := hr.out.trans (A_dead HK.out (by rw [HCL.out]; decide))
          go_wp2
          go_ret2
          exact ⟨fin_ret (k := 0) (b := false) HF.out rfl, rfl⟩
        · have HF : Hid (A zs 0 i = fin 1 k) := hr.out.trans (A_dead HK.out (by rw [HCL.out]; decide))
          go_wp2
          go_ret2
          exact ⟨fin_ret (k := 0) (b := false) HF.out rfl, rfl⟩
        · go_wp2
          go_round
          case rel => exact ⟨6, k + 1, by omega, by omega, rfl, by go_num, hr.out.trans (A_go HK.out (by rw [HCL.out]; rfl))⟩
          case measure => simp [intOf]; omega
        · go_wp2
          go_round
          case rel => exact ⟨6, k + 1, by omega, by omega, rfl, by go_num, hr.out.trans (A_go HK.out (by rw [HCL.out]; rfl))⟩
          case measure => simp [intOf]; omega
        · have HF : Hid (A zs 0 i = fin 4 k) := hr.out.trans (A_dead HK.out (by rw [HCL.out]; decide))
          go_wp2
          go_ret2
          exact ⟨fin_ret (k := 0) (b := false) HF.out rfl, rfl⟩
        · go_wp2
          go_round
          case rel => exact ⟨6, k + 1, by omega, by omega, rfl, by go_num, hr.out.trans (A_go HK.out (by rw [HCL.out]; rfl))⟩
          case measure => simp [intOf]; omega
        · have HF : Hid (A zs 0 i = fin 6 k) := hr.out.trans (A_dead HK.out (by rw [HCL.out]; decide))
          go_wp2
          go_ret2
          exact ⟨fin_ret (k := 0) (b := false) HF.out rfl, rfl⟩
        · have HF : Hid (A zs 0 i = fin 7 k) := hr.out.trans (A_dead HK.out (by rw [HCL.out]; decide))
          go_wp2
          go_ret2
          exact ⟨fin_ret (k := 0) (b := false) HF.out rfl, rfl⟩
        · have HF : Hid (A zs 0 i = fin 8 k) := hr.out.trans (A_dead HK.out (by rw [HCL.out]; decide))
          go_wp2
          go_ret2
          exact ⟨fin_ret (k := k) (b := true) HF.out rfl, rfl⟩
      · have HCL : Hid (cl (z zs k) = 5) := by rw [← HCC.out, hcl]; rfl
        subst hcl
        rcases hst with rfl | rfl | rfl | rfl | rfl | rfl | rfl | rfl | rfl
        · have HF : Hid (A zs 0 i = fin 0 k) := hr.out.trans (A_dead HK.out (by rw [HCL.out]; decide))
          go_wp2
          go_ret2
          exact ⟨fin_ret (k := 0) (b := false) HF.out rfl, rfl⟩
        · have HF : Hid (A zs 0 i = fin 1 k) := hr.out.trans (A_dead HK.out (by rw [HCL.out]; decide))
          go_wp2
          go_ret2
          exact ⟨fin_ret (k := 0) (b := false) HF.out rfl, rfl⟩
        · have HF : Hid (A zs 0 i = fin 2 k) := hr.out.trans (A_dead HK.out (by rw [HCL.out]; decide))
          go_wp2
          go_ret2
          exact ⟨fin_ret (k := k) (b := true) HF.out rfl, rfl⟩
        · have HF : Hid (A zs 0 i = fin 3 k) := hr.out.trans (A_dead HK.out (by rw [HCL.out]; decide))
          go_wp2
          go_ret2
          exact ⟨fin_ret (k := k) (b := true) HF.out rfl, rfl⟩
        · have HF : Hid (A zs 0 i = fin 4 k) := hr.out.trans (A_dead HK.out (by rw [HCL.out]; decide))
          go_wp2
          go_ret2
          exact ⟨fin_ret (k := 0) (b := false) HF.out rfl, rfl⟩
        · have HF : Hid (A zs 0 i = fin 5 k) := hr.out.trans (A_dead HK.out (by rw [HCL.out]; decide))
          go_wp2
          go_ret2
          exact ⟨fin_ret (k := k) (b := true) HF.out rfl, rfl⟩
        · go_wp2
          go_round
          case rel => exact ⟨7, k + 1, by omega, by omega, rfl, by go_num, hr.out.trans (A_go HK.out (by rw [HCL.out]; rfl))⟩
          case measure => simp [intOf]; omega
        · have HF : Hid (A zs 0 i = fin 7 k) := hr.out.trans (A_dead HK.out (by rw [HCL.out]; decide))
          go_wp2
          go_ret2
          exact ⟨fin_ret (k := 0) (b := false) HF.out rfl, rfl⟩
        · have HF : Hid (A zs 0 i = fin 8 k) := hr.out.trans (A_dead HK.out (by rw [HCL.out]; decide))
          go_wp2
          go_ret2
          exact ⟨fin_ret (k := k) (b := true) HF.out rfl, rfl⟩
      · obtain ⟨hcl, hside⟩ := hcl
        obtain ⟨n45, n48, nd, n46, n101, n69, n43⟩ := cl_6 hcl
        have dside : decide (48 ≤ d) = false := decide_eq_false (by omega)
        have HCL : Hid (cl (z zs k) = 6) := by rw [← HCC.out]; exact hcl
        have q45 : (d == 45) = false := beq_eq_false_iff_ne.2 n45
        have q48 : (d == 48) = false := beq_eq_false_iff_ne.2 n48
        have q46 : (d == 46) = false := beq_eq_false_iff_ne.2 n46
        have q101 : (d == 101) = false := beq_eq_false_iff_ne.2 n101
        have q69 : (d == 69) = false := beq_eq_false_iff_ne.2 n69
        have q43 : (d == 43) = false := beq_eq_false_iff_ne.2 n43
        clear n45 n48 n46 n101 n69 n43 hcl nd
        rcases hst with rfl | rfl | rfl | rfl | rfl | rfl | rfl | rfl | rfl
        · have HF : Hid (A zs 0 i = fin 0 k) := hr.out.trans (A_dead HK.out (by rw [HCL.out]; decide))
          go_wp2
          go_ret2
          exact ⟨fin_ret (k := 0) (b := false) HF.out rfl, rfl⟩
        · have HF : Hid (A zs 0 i = fin 1 k) := hr.out.trans (A_dead HK.out (by rw [HCL.out]; decide))
          go_wp2
          go_ret2
          exact ⟨fin_ret (k := 0) (b := false) HF.out rfl, rfl⟩
        · have HF : Hid (A zs 0 i = fin 2 k) := hr.out.trans (A_dead HK.out (by rw [HCL.out]; decide))
          go_wp2
          go_ret2
          exact ⟨fin_ret (k := k) (b := true) HF.out rfl, rfl⟩
        · have HF : Hid (A zs 0 i = fin 3 k) := hr.out.trans (A_dead HK.out (by rw [HCL.out]; decide))
          go_wp2
          go_ret2
          exact ⟨fin_ret (k := k) (b := true) HF.out rfl, rfl⟩
        · have HF : Hid (A zs 0 i = fin 4 k) := hr.out.trans (A_dead HK.out (by rw [HCL.out]; decide))
          go_wp2
          go_ret2
          exact ⟨fin_ret (k := 0) (b := false) HF.out rfl, rfl⟩
        · have HF : Hid (A zs 0 i = fin 5 k) := hr.out.trans (A_dead HK.out (by rw [HCL.out]; decide))
          go_wp2
          go_ret2
          exact ⟨fin_ret (k := k) (b := true) HF.out rfl, rfl⟩
        · have HF : Hid (A zs 0 i = fin 6 k) := hr.out.trans (A_dead HK.out (by rw [HCL.out]; decide))
          go_wp2
          go_ret2
          exact ⟨fin_ret (k := 0) (b := false) HF.out rfl, rfl⟩
        · have HF : Hid (A zs 0 i = fin 7 k) := hr.out.trans (A_dead HK.out (by rw [HCL.out]; decide))
          go_wp2
          go_ret2
          exact ⟨fin_ret (k := 0) (b := false) HF.out rfl, rfl⟩
        · have HF : Hid (A zs 0 i = fin 8 k) := hr.out.trans (A_dead HK.out (by rw [HCL.out]; decide))
          go_wp2
          go_ret2
          exact ⟨fin_ret (k := k) (b := true) HF.out rfl, rfl⟩
      · obtain ⟨hcl, hside⟩ := hcl
        obtain ⟨n45, n48, nd, n46, n101, n69, n43⟩ := cl_6 hcl
        have l48 : 48 ≤ d := by omega
        have dside : decide (d ≤ 57) = false := decide_eq_false (by omega)
        have HCL : Hid (cl (z zs k) = 6) := by rw [← HCC.out]; exact hcl
        have q45 : (d == 45) = false := beq_eq_false_iff_ne.2 n45
        have q48 : (d == 48) = false := beq_eq_false_iff_ne.2 n48
        have q46 : (d == 46) = false := beq_eq_false_iff_ne.2 n46
        have q101 : (d == 101) = false := beq_eq_false_iff_ne.2 n101
        have q69 : (d == 69) = false := beq_eq_false_iff_ne.2 n69
        have q43 : (d == 43) = false := beq_eq_false_iff_ne.2 n43
        clear n45 n48 n46 n101 n69 n43 hcl nd
        rcases hst with rfl | rfl | rfl | rfl | rfl | rfl | rfl | rfl | rfl
        · have HF : Hid (A zs 0 i = fin 0 k) := hr.out.trans (A_dead HK.out (by rw [HCL.out]; decide))
          go_wp2
          go_ret2
          exact ⟨fin_ret (k := 0) (b := false) HF.out rfl, rfl⟩
        · have HF : Hid (A zs 0 i = fin 1 k) := hr.out.trans (A_dead HK.out (by rw [HCL.out]; decide))
          go_wp2
          go_ret2
          exact ⟨fin_ret (k := 0) (b := false) HF.out rfl, rfl⟩
        · have HF : Hid (A zs 0 i = fin 2 k) := hr.out.trans (A_dead HK.out (by rw [HCL.out]; decide))
          go_wp2
          go_ret2
          exact ⟨fin_ret (k := k) (b := true) HF.out rfl, rfl⟩
        · have HF : Hid (A zs 0 i = fin 3 k) := hr.out.trans (A_dead HK.out (by rw [HCL.out]; decide))
          go_wp2
          go_ret2
          exact ⟨fin_ret (k := k) (b := true) HF.out rfl, rfl⟩
        · have HF : Hid (A zs 0 i = fin 4 k) := hr.out.trans (A_dead HK.out (by rw [HCL.out]; decide))
          go_wp2
          go_ret2
          exact ⟨fin_ret (k := 0) (b := false) HF.out rfl, rfl⟩
        · have HF : Hid (A zs 0 i = fin 5 k) := hr.out.trans (A_dead HK.out (by rw [HCL.out]; decide))
          go_wp2
          go_ret2
          exact ⟨fin_ret (k := k) (b := true) HF.out rfl, rfl⟩
        · have HF : Hid (A zs 0 i = fin 6 k) := hr.out.trans (A_dead HK.out (by rw [HCL.out]; decide))
          go_wp2
          go_ret2
          exact ⟨fin_ret (k := 0) (b := false) HF.out rfl, rfl⟩
        · have HF : Hid (A zs 0 i = fin 7 k) := hr.out.trans (A_dead HK.out (by rw [HCL.out]; decide))
          go_wp2
          go_ret2
          exact ⟨fin_ret (k := 0) (b := false) HF.out rfl, rfl⟩
        · have HF : Hid (A zs 0 i = fin 8 k) := hr.out.trans (A_dead HK.out (by rw [HCL.out]; decide))
          go_wp2
          go_ret2
          exact ⟨fin_ret (k := k) (b := true) HF.out rfl, rfl⟩
    · have HK : Hid (zs.length ≤ k) := by have := HZ.out; unfold Hid; omega
      clear HC HZ
      rcases hst with rfl | rfl | rfl | rfl | rfl | rfl | rfl | rfl | rfl
      · have HF : Hid (A zs 0 i = fin 0 k) := hr.out.trans (A_stop HK.out)
        go_wp2
        go_ret2
        exact ⟨fin_ret (k := 0) (b := false) HF.out rfl, rfl⟩
      · have HF : Hid (A zs 0 i = fin 1 k) := hr.out.trans (A_stop HK.out)
        go_wp2
        go_ret2
        exact ⟨fin_ret (k := 0) (b := false) HF.out rfl, rfl⟩
      · have HF : Hid (A zs 0 i = fin 2 k) := hr.out.trans (A_stop HK.out)
        go_wp2
        go_ret2
        exact ⟨fin_ret (k := k) (b := true) HF.out rfl, rfl⟩
      · have HF : Hid (A zs 0 i = fin 3 k) := hr.out.trans (A_stop HK.out)
        go_wp2
        go_ret2
        exact ⟨fin_ret (k := k) (b := true) HF.out rfl, rfl⟩
      · have HF : Hid (A zs 0 i = fin 4 k) := hr.out.trans (A_stop HK.out)
        go_wp2
        go_ret2
        exact ⟨fin_ret (k := 0) (b := false) HF.out rfl, rfl⟩
      · have HF : Hid (A zs 0 i = fin 5 k) := hr.out.trans (A_stop HK.out)
        go_wp2
        go_ret2
        exact ⟨fin_ret (k := k) (b := true) HF.out rfl, rfl⟩
      · have HF : Hid (A zs 0 i = fin 6 k) := hr.out.trans (A_stop HK.out)
        go_wp2
        go_ret2
        exact ⟨fin_ret (k := 0) (b := false) HF.out rfl, rfl⟩
      · have HF : Hid (A zs 0 i = fin 7 k) := hr.out.trans (A_stop HK.out)
        go_wp2
        go_ret2
        exact ⟨fin_ret (k := 0) (b := false) HF.out rfl, rfl⟩
      · have HF : Hid (A zs 0 i = fin 8 k) := hr.out.trans (A_stop HK.out)
        go_wp2
        go_ret2
        exact ⟨fin_ret (k := k) (b := true) HF.out rfl, rfl⟩
end Go.Proofs.Qxb6600169a.Num
