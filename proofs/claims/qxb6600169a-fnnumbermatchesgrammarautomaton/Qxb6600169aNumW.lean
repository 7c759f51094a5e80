/-
  THE WALKS: (*passer).digits, (*passer).number, ZZNumber.
-/
import Derived.Test.Qxb6600169aPlain2
import Derived.Test.Qxb6600169aNum
import Derived.Deep.DeepCutAuto
import Derived.Deep.CutBlock
namespace Go.Proofs.Qxb6600169a.Num
open Go.ChangeShapes Go.WideShapes Go.ChangeAt Go.RowKit

theorem ret2 {a b : Nat × Bool} (h : a = b) : Ending.returned (.tuple #[.int .i64 a.1, .bool a.2]) = .returned (.tuple #[.int .i64 b.1, .bool b.2]) := by rw [h]

set_option maxRecDepth 100000 in
set_option maxHeartbeats 2000000 in
theorem digits_any (b g n cap : Nat) (zs : List Int) (k : Nat) (w : World) (hb : w.cell? ⟨b, 0, none⟩ = some (.slice (some ⟨g, 0, none⟩) n cap)) (hz : zs.length = n) (hn : n ≤ 1048576) (hk : k ≤ n)
    (hc : ∀ i, i < n → w.cell? ⟨g, i, none⟩ = some (.int .u8 (z zs i))) :
    Calls Try.prog 28 #[.pointer (some ⟨b, 0, none⟩), .int .i64 k] w fun e w' => e = .returned (.tuple #[.int .i64 (D zs k : Nat), .bool (decide (k < D zs k))]) ∧ w' = w := by
  have HZ : Hid _ := hz
  have HC : Hid _ := hc
  clear hz hc
  go_enter Try.func28, Try.ntmps28
  go_wp2
  go_loop [1] (fun s => ∃ m : Nat, k ≤ m ∧ m ≤ n ∧ s = .int .i64 m ∧ Hid (D zs k = D zs m)) (fun s => n - (intOf s).toNat)
  case atStart => exact ⟨k, Nat.le_refl _, hk, rfl, rfl⟩
  case round =>
    obtain ⟨m, h1, h2, rfl, hr⟩ := hrel
    by_cases hlt : m < n
    · have hcell := HC.out m hlt
      obtain ⟨c, hcc⟩ : ∃ c, c = z zs m := ⟨_, rfl⟩
      rw [← hcc] at hcell
      have HCC : Hid (c = z zs m) := hcc
      clear hcc
      by_cases h48 : 48 ≤ c
      · by_cases h57 : c ≤ 57
        · go_wp2
          go_round
          case rel => exact ⟨m + 1, by omega, by omega, by go_num, hr.out.trans (D_yes (by have := HZ.out; omega) (by rw [← HCC.out]; exact ⟨h48, h57⟩))⟩
          case measure => simp [intOf]; omega
        · have d57 : decide (c ≤ 57) = false := decide_eq_false h57
          have HD : Hid (D zs k = m) := hr.out.trans (D_no (by rw [← HCC.out]; exact fun x => h57 x.2))
          go_wp2
          go_ret2
          rw [HD.out]
          exact ⟨by simp, rfl⟩
      · have d48 : decide (48 ≤ c) = false := decide_eq_false h48
        have HD : Hid (D zs k = m) := hr.out.trans (D_no (by rw [← HCC.out]; exact fun x => h48 x.1))
        go_wp2
        go_ret2
        rw [HD.out]
        exact ⟨by simp, rfl⟩
    · have HD : Hid (D zs k = m) := hr.out.trans (D_stop (by have := HZ.out; omega))
      have dl : decide (m < n) = false := decide_eq_false hlt
      go_wp2
      go_ret2
      rw [HD.out]
      exact ⟨by simp, rfl⟩

theorem num_yes {zs : List Int} {i : Nat} (h : z zs i = 45) : num zs i = numI zs (i + 1) := by unfold num; rw [if_pos h]
theorem num_no {zs : List Int} {i : Nat} (h : z zs i ≠ 45) : num zs i = numI zs i := by unfold num; rw [if_neg h]
theorem numI_zero {zs : List Int} {k : Nat} (h : k < zs.length) (h2 : z zs k = 48) : numI zs k = numF zs (k + 1) := by unfold numI; rw [if_pos ⟨h, h2⟩]
theorem numI_digs {zs : List Int} {k : Nat} (h : ¬ (k < zs.length ∧ z zs k = 48)) (h2 : k < D zs k) : numI zs k = numF zs (D zs k) := by unfold numI; rw [if_neg h, if_pos h2]
theorem numI_none {zs : List Int} {k : Nat} (h : ¬ (k < zs.length ∧ z zs k = 48)) (h2 : ¬ k < D zs k) : numI zs k = (0, false) := by unfold numI; rw [if_neg h, if_neg h2]
theorem numF_digs {zs : List Int} {k : Nat} (h : k < zs.length ∧ z zs k = 46) (h2 : k + 1 < D zs (k + 1)) : numF zs k = numE zs (D zs (k + 1)) := by unfold numF; rw [if_pos h, if_pos h2]
theorem numF_none {zs : List Int} {k : Nat} (h : k < zs.length ∧ z zs k = 46) (h2 : ¬ k + 1 < D zs (k + 1)) : numF zs k = (0, false) := by unfold numF; rw [if_pos h, if_neg h2]
theorem numF_no {zs : List Int} {k : Nat} (h : ¬ (k < zs.length ∧ z zs k = 46)) : numF zs k = numE zs k := by unfold numF; rw [if_neg h]
theorem numE_yes {zs : List Int} {k : Nat} (h : k < zs.length ∧ (z zs k = 101 ∨ z zs k = 69)) : numE zs k = digs zs (sgn zs (k + 1)) := by unfold numE; rw [if_pos h]
theorem numE_no {zs : List Int} {k : Nat} (h : ¬ (k < zs.length ∧ (z zs k = 101 ∨ z zs k = 69))) : numE zs k = (k, true) := by unfold numE; rw [if_neg h]
theorem sgn_yes {zs : List Int} {k : Nat} (h : k < zs.length ∧ (z zs k = 43 ∨ z zs k = 45)) : sgn zs k = k + 1 := by unfold sgn; rw [if_pos h]
theorem sgn_no {zs : List Int} {k : Nat} (h : ¬ (k < zs.length ∧ (z zs k = 43 ∨ z zs k = 45))) : sgn zs k = k := by unfold sgn; rw [if_neg h]
theorem digs_yes {zs : List Int} {k : Nat} (h : k < D zs k) : digs zs k = (D zs k, true) := by unfold digs; rw [if_pos h]
theorem digs_no {zs : List Int} {k : Nat} (h : ¬ k < D zs k) : digs zs k = (0, false) := by unfold digs; rw [if_neg h]
theorem fin_ret {r : Nat × Bool} {a : Int} {k : Nat} {b : Bool} (h : r = (k, b)) (ha : a = (k : Int)) : Ending.returned (.tuple #[.int .i64 a, .bool b]) = .returned (.tuple #[.int .i64 r.1, .bool r.2]) := by rw [h, ha]

set_option maxRecDepth 100000 in
set_option maxHeartbeats 4000000 in
theorem number_any (b g n cap : Nat) (zs : List Int) (i : Nat) (w : World) (hb : w.cell? ⟨b, 0, none⟩ = some (.slice (some ⟨g, 0, none⟩) n cap)) (hz : zs.length = n) (hn : n ≤ 1048576) (hi : i < n)
    (hc : ∀ i, i < n → w.cell? ⟨g, i, none⟩ = some (.int .u8 (z zs i))) :
    Calls Try.prog 27 #[.pointer (some ⟨b, 0, none⟩), .int .i64 i] w fun e w' => e = .returned (.tuple #[.int .i64 ((num zs i).1 : Nat), .bool (num zs i).2]) ∧ w' = w := by
  have HDg : Hid _ := fun k hk => digits_any b g n cap zs k w hb hz hn hk hc
  have HZ : Hid _ := hz
  have HC : Hid _ := hc
  clear hz hc
  have hcell := HC.out i hi
  obtain ⟨c, hcc⟩ : ∃ c, c = z zs i := ⟨_, rfl⟩
  rw [← hcc] at hcell
  have HCC : Hid (c = z zs i) := hcc
  clear hcc
  go_enter Try.func27, Try.ntmps27
  go_upto_if 16 with fail
  go_cut [1] (fun s1 wx => ∃ k : Nat, s1 = .int .i64 k ∧ k ≤ n ∧ wx = w ∧ Hid (num zs i = numI zs k))
  case first =>
    by_cases h45 : c = 45
    · have q : (c == 45) = true := beq_iff_eq.2 h45
      have HQ : Hid _ := h45
      clear h45
      go_wp2
      go_meet
      exact ⟨i + 1, by go_num, by omega, rfl, num_yes (by rw [← HCC.out]; exact HQ.out)⟩
    · have q : (c == 45) = false := beq_eq_false_iff_ne.2 h45
      have HQ : Hid _ := h45
      clear h45
      go_wp2
      go_meet
      exact ⟨i, rfl, by omega, rfl, num_no (by rw [← HCC.out]; exact HQ.out)⟩
  case rest =>
  obtain ⟨k, rfl, hk, rfl, hr⟩ := hcut
  clear hcell HCC
  go_upto_block 0 with fail
  go_cut [1, 7] (fun s1 s7 wx => ∃ (k : Nat), s1 = .int .i64 k ∧ k ≤ n ∧ wx = wc ∧ Hid (num zs i = numF zs k))
  case first =>
    by_cases hkn : k < n
    · have hcell := HC.out k hkn
      obtain ⟨d, hdd⟩ : ∃ d, d = z zs k := ⟨_, rfl⟩
      rw [← hdd] at hcell
      have HCC : Hid (d = z zs k) := hdd
      clear hdd
      by_cases h48 : d = 48
      · have q : (d == 48) = true := beq_iff_eq.2 h48
        have HQ : Hid _ := h48
        clear h48
        go_wp2
        go_meet
        exact ⟨k + 1, by go_num, by omega, rfl, hr.out.trans (numI_zero (by have := HZ.out; omega) (by rw [← HCC.out]; exact HQ.out))⟩
      · have q : (d == 48) = false := beq_eq_false_iff_ne.2 h48
        have HN : Hid (¬ (k < zs.length ∧ z zs k = 48)) := fun x => h48 (by rw [HCC.out]; exact x.2)
        clear h48 HCC
        by_cases hD : k < D zs k
        · have dD : decide (k < D zs k) = true := decide_eq_true hD
          have HF : Hid _ := numI_digs HN.out hD
          have HL : Hid _ := D_le (zs := zs) (k := k) (by have := HZ.out; omega)
          clear hD
          go_wp2_with (go_at_call 28; refine (HDg.out _ hk).mono ?_; rintro e w1 ⟨rfl, rfl⟩)
          go_meet
          exact ⟨D zs k, rfl, by have := HL.out; have := HZ.out; omega, rfl, hr.out.trans HF.out⟩
        · have dD : decide (k < D zs k) = false := decide_eq_false hD
          have HF : Hid _ := hr.out.trans (numI_none HN.out hD)
          clear hD
          go_wp2_with (go_at_call 28; refine (HDg.out _ hk).mono ?_; rintro e w1 ⟨rfl, rfl⟩)
          go_ret2
          exact ⟨fin_ret HF.out rfl, rfl⟩
    · have dl : decide (k < n) = false := decide_eq_false hkn
      have HN : Hid (¬ (k < zs.length ∧ z zs k = 48)) := fun x => hkn (by have := HZ.out; omega)
      have hD : ¬ k < D zs k := by rw [D_stop (by have := HZ.out; omega)]; omega
      have dD : decide (k < D zs k) = false := decide_eq_false hD
      have HF : Hid _ := hr.out.trans (numI_none HN.out hD)
      clear hD
      go_wp2_with (go_at_call 28; refine (HDg.out _ hk).mono ?_; rintro e w1 ⟨rfl, rfl⟩)
      go_ret2
      exact ⟨fin_ret HF.out rfl, rfl⟩
  case rest =>
  obtain ⟨m, rfl, hm, hw2, hr2⟩ := hcut
  subst hw2
  clear hr hk
  go_upto_region 10 with fail
  go_cut [51] (fun s51 wx => s51 = .bool (decide (m < n ∧ z zs m = 46)) ∧ wx = wc)
  case first =>
    by_cases hmn : m < n
    · have hcell := HC.out m hmn
      obtain ⟨d, hdd⟩ : ∃ d, d = z zs m := ⟨_, rfl⟩
      rw [← hdd] at hcell
      have HCC : Hid (d = z zs m) := hdd
      clear hdd
      by_cases h46 : d = 46
      · have q : (d == 46) = true := beq_iff_eq.2 h46
        have HQ : Hid _ := h46
        clear h46
        go_wp2
        go_meet
        exact ⟨congrArg Value.bool (decide_eq_true ⟨hmn, by rw [← HCC.out]; exact HQ.out⟩).symm, rfl⟩
      · have q : (d == 46) = false := beq_eq_false_iff_ne.2 h46
        have HQ : Hid _ := h46
        clear h46
        go_wp2
        go_meet
        exact ⟨congrArg Value.bool (decide_eq_false (fun x => HQ.out (by rw [HCC.out]; exact x.2))).symm, rfl⟩
    · have dl : decide (m < n) = false := decide_eq_false hmn
      go_wp2
      go_meet
      exact ⟨congrArg Value.bool (decide_eq_false (fun x => hmn x.1)).symm, rfl⟩
  case rest =>
  obtain ⟨rfl, hw3⟩ := hcut
  subst hw3
  obtain ⟨fr, hfr⟩ : ∃ fr, fr = decide (m < n ∧ z zs m = 46) := ⟨_, rfl⟩
  rw [← hfr]
  have HFR : Hid _ := hfr
  clear hfr
  go_upto_if 51 with fail
  go_cut [1, 7] (fun s1 s7 wx => ∃ (k : Nat), s1 = .int .i64 k ∧ k ≤ n ∧ wx = wc ∧ Hid (num zs i = numE zs k))
  case first =>
    cases fr
    · have HF : Hid _ := hr2.out.trans (numF_no (fun x => of_decide_eq_false HFR.out.symm ⟨by have := HZ.out; omega, x.2⟩))
      go_wp2
      go_meet
      exact ⟨m, rfl, hm, rfl, HF⟩
    · have hx0 := of_decide_eq_true HFR.out.symm
      have HX : Hid (m < n ∧ z zs m = 46) := hx0
      clear hx0
      have hmn : m < n := HX.out.1
      have HY : Hid (m < zs.length ∧ z zs m = 46) := ⟨by have := HZ.out; omega, HX.out.2⟩
      by_cases hD : m + 1 < D zs (m + 1)
      · have dD : decide (m + 1 < D zs (m + 1)) = true := decide_eq_true hD
        have HF : Hid _ := numF_digs HY.out hD
        have HL : Hid _ := D_le (zs := zs) (k := m + 1) (by have := HZ.out; omega)
        have HDm : Hid _ := fun _ : True => HDg.out (m + 1) (by omega)
        clear hD
        go_wp2_with fail
        rw [show ((m : Int) + 1) = ((m + 1 : Nat) : Int) by omega]
        refine (HDm.out trivial).mono ?_
        rintro e w1 ⟨rfl, rfl⟩
        go_wp2
        go_meet
        exact ⟨D zs (m + 1), rfl, by have := HL.out; have := HZ.out; omega, rfl, hr2.out.trans HF.out⟩
      · have dD : decide (m + 1 < D zs (m + 1)) = false := decide_eq_false hD
        have HF : Hid _ := hr2.out.trans (numF_none HY.out hD)
        have HDm : Hid _ := fun _ : True => HDg.out (m + 1) (by omega)
        clear hD
        go_wp2_with fail
        rw [show ((m : Int) + 1) = ((m + 1 : Nat) : Int) by omega]
        refine (HDm.out trivial).mono ?_
        rintro e w1 ⟨rfl, rfl⟩
        go_wp2
        go_ret2
        exact ⟨fin_ret HF.out rfl, rfl⟩
  case rest =>
  obtain ⟨x, rfl, hx, hw4, hr3⟩ := hcut
  subst hw4
  clear hr2 HFR hm
  by_cases hxn : x < n
  · have hcell := HC.out x hxn
    obtain ⟨d, hdd⟩ : ∃ d, d = z zs x := ⟨_, rfl⟩
    rw [← hdd] at hcell
    have HCC : Hid (d = z zs x) := hdd
    clear hdd
    by_cases he : d = 101 ∨ d = 69
    · have HE : Hid _ := hr3.out.trans (numE_yes ⟨by have := HZ.out; omega, by rw [← HCC.out]; exact he⟩)
      have HSg : Hid _ := @sgn_yes zs (x + 1)
      have HSn : Hid _ := @sgn_no zs (x + 1)
      clear HCC hr3
      rcases he with rfl | rfl
      all_goals
        by_cases hyn : x + 1 < n
        · have hcell2 := HC.out (x + 1) hyn
          obtain ⟨c, hdd⟩ : ∃ c, c = z zs (x + 1) := ⟨_, rfl⟩
          rw [← hdd] at hcell2
          have HCC : Hid (c = z zs (x + 1)) := hdd
          clear hdd
          by_cases hs : c = 43 ∨ c = 45
          · have HS : Hid (sgn zs (x + 1) = x + 1 + 1) := HSg.out ⟨by have := HZ.out; omega, by rw [← HCC.out]; exact hs⟩
            clear HCC HSg HSn
            have HDm : Hid _ := fun _ : True => HDg.out (x + 1 + 1) (by omega)
            have HE2 : Hid (num zs i = digs zs (x + 1 + 1)) := by have := HE.out; rw [HS.out] at this; exact this
            clear HE HS
            by_cases hD : x + 1 + 1 < D zs (x + 1 + 1)
            · have dD : decide (x + 1 + 1 < D zs (x + 1 + 1)) = true := decide_eq_true hD
              have HF : Hid _ := HE2.out.trans (digs_yes hD)
              clear hD HE2
              rcases hs with rfl | rfl
              all_goals
                go_wp2_with fail
                rw [show ((x : Int) + 1 + 1) = ((x + 1 + 1 : Nat) : Int) by omega]
                refine (HDm.out trivial).mono ?_
                rintro e w1 ⟨rfl, rfl⟩
                go_wp2
                go_ret2
                exact ⟨fin_ret HF.out rfl, rfl⟩
            · have dD : decide (x + 1 + 1 < D zs (x + 1 + 1)) = false := decide_eq_false hD
              have HF : Hid _ := HE2.out.trans (digs_no hD)
              clear hD HE2
              rcases hs with rfl | rfl
              all_goals
                go_wp2_with fail
                rw [show ((x : Int) + 1 + 1) = ((x + 1 + 1 : Nat) : Int) by omega]
                refine (HDm.out trivial).mono ?_
                rintro e w1 ⟨rfl, rfl⟩
                go_wp2
                go_ret2
                exact ⟨fin_ret HF.out rfl, rfl⟩
          · have q43 : (c == 43) = false := beq_eq_false_iff_ne.2 (fun e => hs (Or.inl e))
            have q45 : (c == 45) = false := beq_eq_false_iff_ne.2 (fun e => hs (Or.inr e))
            have HS : Hid (sgn zs (x + 1) = x + 1) := HSn.out (fun y => hs (by rw [HCC.out]; exact y.2))
            clear HCC HSg HSn hs
            have HDm : Hid _ := fun _ : True => HDg.out (x + 1) (by omega)
            have HE2 : Hid (num zs i = digs zs (x + 1)) := by have := HE.out; rw [HS.out] at this; exact this
            clear HE HS
            by_cases hD : x + 1 < D zs (x + 1)
            · have dD : decide (x + 1 < D zs (x + 1)) = true := decide_eq_true hD
              have HF : Hid _ := HE2.out.trans (digs_yes hD)
              clear hD HE2
              go_wp2_with fail
              rw [show ((x : Int) + 1) = ((x + 1 : Nat) : Int) by omega]
              refine (HDm.out trivial).mono ?_
              rintro e w1 ⟨rfl, rfl⟩
              go_wp2
              go_ret2
              exact ⟨fin_ret HF.out rfl, rfl⟩
            · have dD : decide (x + 1 < D zs (x + 1)) = false := decide_eq_false hD
              have HF : Hid _ := HE2.out.trans (digs_no hD)
              clear hD HE2
              go_wp2_with fail
              rw [show ((x : Int) + 1) = ((x + 1 : Nat) : Int) by omega]
              refine (HDm.out trivial).mono ?_
              rintro e w1 ⟨rfl, rfl⟩
              go_wp2
              go_ret2
              exact ⟨fin_ret HF.out rfl, rfl⟩
        · have HS : Hid (sgn zs (x + 1) = x + 1) := HSn.out (fun y => hyn (by have := HZ.out; omega))
          clear HSg HSn
          have HDm : Hid _ := fun _ : True => HDg.out (x + 1) (by omega)
          have HE2 : Hid (num zs i = digs zs (x + 1)) := by have := HE.out; rw [HS.out] at this; exact this
          clear HE HS
          have hD : ¬ x + 1 < D zs (x + 1) := by rw [D_stop (by have := HZ.out; omega)]; omega
          have dD : decide (x + 1 < D zs (x + 1)) = false := decide_eq_false hD
          have HF : Hid _ := HE2.out.trans (digs_no hD)
          clear hD HE2
          have dl : decide (x + 1 < n) = false := decide_eq_false hyn
          go_wp2_with fail
          rw [show ((x : Int) + 1) = ((x + 1 : Nat) : Int) by omega]
          refine (HDm.out trivial).mono ?_
          rintro e w1 ⟨rfl, rfl⟩
          go_wp2
          go_ret2
          exact ⟨fin_ret HF.out rfl, rfl⟩
    · have q101 : (d == 101) = false := beq_eq_false_iff_ne.2 (fun e => he (Or.inl e))
      have q69 : (d == 69) = false := beq_eq_false_iff_ne.2 (fun e => he (Or.inr e))
      have HF : Hid _ := hr3.out.trans (numE_no (fun y => he (by rw [HCC.out]; exact y.2)))
      clear HCC he hr3
      go_wp2
      go_ret2
      exact ⟨fin_ret HF.out rfl, rfl⟩
  · have dl : decide (x < n) = false := decide_eq_false hxn
    have HF : Hid _ := hr3.out.trans (numE_no (fun y => hxn (by have := HZ.out; omega)))
    clear hr3
    go_wp2
    go_ret2
    exact ⟨fin_ret HF.out rfl, rfl⟩
end Go.Proofs.Qxb6600169a.Num
