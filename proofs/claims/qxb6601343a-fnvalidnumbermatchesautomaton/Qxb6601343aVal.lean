/-
  THE WALKS: validNumber's closure, validNumber.
-/
import Derived.Test.Qxb6601343aStep
import Derived.Deep.DeepCutAuto
import Derived.Deep.CutBlock
namespace Go.Proofs.Qxb6601343a.Num
open Go.ChangeShapes Go.WideShapes Go.ChangeAt Go.RowKit

theorem ret_bool {a b : Bool} (h : a = b) : Ending.returned (.bool a) = .returned (.bool b) := by rw [h]
theorem ret_int {k : IntKind} {a b : Int} (h : a = b) : Ending.returned (.int k a) = .returned (.int k b) := by rw [h]

set_option maxRecDepth 100000 in
set_option maxHeartbeats 2000000 in
theorem digits_any (s : ByteArray) (k : Nat) (w : World) (hn : s.size ≤ 1048576) (hk : k ≤ s.size) :
    Calls Try.prog 25 #[.pointer (some ⟨w.heap.size + 1, 0, none⟩), .pointer (some ⟨w.heap.size, 0, none⟩)] ((w.alloc (.cells #[.string s] 9)).alloc (.cells #[.int .i64 k] 3)) fun e w' =>
      e = .returned (.int .i64 ((D (bs s) k : Int) - k)) ∧ w' = (w.alloc (.cells #[.string s] 9)).alloc (.cells #[.int .i64 (D (bs s) k : Nat)] 3) := by
  go_enter Try.func25, Try.ntmps25
  go_wp2
  go_loopw [3] (fun s3 wr => ∃ m : Nat, k ≤ m ∧ m ≤ s.size ∧ s3 = .int .i64 ((m : Int) - k) ∧ wr = (w.alloc (.cells #[.string s] 9)).alloc (.cells #[.int .i64 m] 3) ∧ Hid (D (bs s) k = D (bs s) m)) (fun s3 _ => s.size - k - (intOf s3).toNat)
  case atStart => exact ⟨k, Nat.le_refl _, hk, by simp, rfl, rfl⟩
  case round =>
    obtain ⟨m, h1, h2, rfl, rfl, hr⟩ := hrel
    by_cases hlt : m < s.size
    · have HB : Hid _ := bs_at s m hlt
      by_cases h48 : 48 ≤ (s[m].toNat : Int)
      · by_cases h57 : (s[m].toNat : Int) ≤ 57
        · go_wp2
          go_roundw
          case rel => exact ⟨m + 1, by omega, by omega, by go_num, rfl, hr.out.trans (D_yes (by rw [bs_len]; exact hlt) (by rw [HB.out]; exact ⟨h48, h57⟩))⟩
          case measure => simp [intOf]; omega
        · have d57 : decide ((s[m].toNat : Int) ≤ 57) = false := decide_eq_false h57
          have HD : Hid (D (bs s) k = m) := hr.out.trans (D_no (by rw [HB.out]; exact fun x => h57 x.2))
          go_wp2
          go_ret
          rw [HD.out]
          exact ⟨rfl, rfl⟩
      · have d48 : decide (48 ≤ (s[m].toNat : Int)) = false := decide_eq_false h48
        have HD : Hid (D (bs s) k = m) := hr.out.trans (D_no (by rw [HB.out]; exact fun x => h48 x.1))
        go_wp2
        go_ret
        rw [HD.out]
        exact ⟨rfl, rfl⟩
    · have HD : Hid (D (bs s) k = m) := hr.out.trans (D_stop (by rw [bs_len]; omega))
      have dl : decide (m < s.size) = false := decide_eq_false hlt
      go_wp2
      go_ret
      rw [HD.out]
      exact ⟨rfl, rfl⟩
/-! ### validNumber -/
theorem val_yes {zs : List Int} (h : 0 < zs.length ∧ z zs 0 = 45) : val zs = vI zs 1 := by unfold val; rw [if_pos h]
theorem val_no {zs : List Int} (h : ¬ (0 < zs.length ∧ z zs 0 = 45)) : val zs = vI zs 0 := by unfold val; rw [if_neg h]
theorem vI_bad {zs : List Int} {k : Nat} (h : D zs k = k ∨ (k + 1 < D zs k ∧ z zs k = 48)) : vI zs k = false := by unfold vI; rw [if_pos h]
theorem vI_ok {zs : List Int} {k : Nat} (h : ¬ (D zs k = k ∨ (k + 1 < D zs k ∧ z zs k = 48))) : vI zs k = vF zs (D zs k) := by unfold vI; rw [if_neg h]
theorem vF_no {zs : List Int} {k : Nat} (h : ¬ (k < zs.length ∧ z zs k = 46)) : vF zs k = vE zs k := by unfold vF; rw [if_neg h]
theorem vF_bad {zs : List Int} {k : Nat} (h : k < zs.length ∧ z zs k = 46) (h2 : D zs (k + 1) = k + 1) : vF zs k = false := by unfold vF; rw [if_pos h, if_pos h2]
theorem vF_ok {zs : List Int} {k : Nat} (h : k < zs.length ∧ z zs k = 46) (h2 : ¬ D zs (k + 1) = k + 1) : vF zs k = vE zs (D zs (k + 1)) := by unfold vF; rw [if_pos h, if_neg h2]
theorem vE_no {zs : List Int} {k : Nat} (h : ¬ (k < zs.length ∧ (z zs k = 101 ∨ z zs k = 69))) : vE zs k = decide (k = zs.length) := by unfold vE; rw [if_neg h]
theorem vE_yes {zs : List Int} {k : Nat} (h : k < zs.length ∧ (z zs k = 101 ∨ z zs k = 69)) : vE zs k = vD zs (sgn zs (k + 1)) := by unfold vE; rw [if_pos h]
theorem vD_bad {zs : List Int} {k : Nat} (h : D zs k = k) : vD zs k = false := by unfold vD; rw [if_pos h]
theorem vD_ok {zs : List Int} {k : Nat} (h : ¬ D zs k = k) : vD zs k = decide (D zs k = zs.length) := by unfold vD; rw [if_neg h]
theorem sgn_yes {zs : List Int} {k : Nat} (h : k < zs.length ∧ (z zs k = 43 ∨ z zs k = 45)) : sgn zs k = k + 1 := by unfold sgn; rw [if_pos h]
theorem sgn_no {zs : List Int} {k : Nat} (h : ¬ (k < zs.length ∧ (z zs k = 43 ∨ z zs k = 45))) : sgn zs k = k := by unfold sgn; rw [if_neg h]
theorem end_eq {s : ByteArray} {v : Bool} {k : Nat} (h : v = decide (k = (bs s).length)) : Ending.returned (.bool ((k : Int) == (s.size : Int))) = .returned (.bool v) := by
  rw [h, bs_len]
  apply ret_bool
  rw [Bool.eq_iff_iff]
  simp
  omega
theorem digits_at (s : ByteArray) (k : Nat) (w : World) (j : Int) (hj : j = (k : Int)) (hn : s.size ≤ 1048576) (hk : k ≤ s.size) :
    Calls Try.prog 25 #[.pointer (some ⟨w.heap.size + 1, 0, none⟩), .pointer (some ⟨w.heap.size, 0, none⟩)] ((w.alloc (.cells #[.string s] 9)).alloc (.cells #[.int .i64 j] 3)) fun e w' =>
      e = .returned (.int .i64 ((D (bs s) k : Int) - j)) ∧ w' = (w.alloc (.cells #[.string s] 9)).alloc (.cells #[.int .i64 (D (bs s) k : Nat)] 3) := by
  subst hj
  exact digits_any s k w hn hk
theorem grown_two {w : World} {c1 c2 : Array Value} {t1 t2 : TypeId} : Grown w ((w.alloc (.cells c1 t1)).alloc (.cells c2 t2)) := ((Grown.refl _).alloc _ _).alloc _ _

set_option maxRecDepth 100000 in
set_option maxHeartbeats 8000000 in
theorem val_any (s : ByteArray) (w : World) (hn : s.size ≤ 1048576) :
    Calls Try.prog 20 #[.string s] w fun e w' => e = .returned (.bool (val (bs s))) ∧ Grown w w' := by
  have HD : Hid _ := fun k hk => digits_any s k w hn hk
  have HDj : Hid _ := fun k j hj hk => digits_at s k w j hj hn hk
  go_enter Try.func20, Try.ntmps20
  go_upto_region 3 with fail
  go_cut [17] (fun sx wx => sx = .bool (decide (0 < s.size ∧ z (bs s) 0 = 45)) ∧ wx = ((w.alloc (.cells #[.string s] 9)).alloc (.cells #[.int .i64 0] 3)))
  case first =>
    by_cases hlt : 0 < s.size
    · have HB : Hid _ := bs_at s 0 hlt
      by_cases hv : (s[0].toNat : Int) = 45
      · have q : ((s[0].toNat : Int) == 45) = true := beq_iff_eq.2 hv
        have HV : Hid _ := hv
        clear hv
        go_wp2
        go_meet
        exact ⟨congrArg Value.bool (decide_eq_true ⟨hlt, by rw [HB.out]; exact HV.out⟩).symm, rfl⟩
      · have q : ((s[0].toNat : Int) == 45) = false := beq_eq_false_iff_ne.2 hv
        have HV : Hid _ := hv
        clear hv
        go_wp2
        go_meet
        exact ⟨congrArg Value.bool (decide_eq_false (fun x => HV.out (by rw [← HB.out]; exact x.2))).symm, rfl⟩
    · have dl : decide (0 < s.size) = false := decide_eq_false hlt
      go_wp2
      go_meet
      exact ⟨congrArg Value.bool (decide_eq_false (fun x => hlt x.1)).symm, rfl⟩
  case rest =>
  obtain ⟨rfl, rfl⟩ := hcut
  obtain ⟨fr, hfr⟩ : ∃ fr, fr = decide (0 < s.size ∧ z (bs s) 0 = 45) := ⟨_, rfl⟩
  rw [← hfr]
  have HFR : Hid _ := fun _ : True => hfr
  clear hfr
  go_upto_if 17 with fail
  go_cut [] (fun wx => ∃ k : Nat, k ≤ s.size ∧ wx = ((w.alloc (.cells #[.string s] 9)).alloc (.cells #[.int .i64 (k : Nat)] 3)) ∧ Hid (val (bs s) = vI (bs s) k))
  case first =>
    cases fr
    · have HF : Hid _ := val_no (zs := bs s) (fun x => of_decide_eq_false (HFR.out trivial).symm ⟨by have := bs_len s; omega, x.2⟩)
      go_wp2
      go_meet
      exact ⟨0, Nat.zero_le _, rfl, HF⟩
    · have hx := of_decide_eq_true (HFR.out trivial).symm
      have HF : Hid _ := val_yes (zs := bs s) ⟨by have := bs_len s; omega, hx.2⟩
      have h0 : 0 < s.size := hx.1
      clear hx
      go_wp2
      go_meet
      exact ⟨1, h0, rfl, HF⟩
  case rest =>
  obtain ⟨k, hk, rfl, hr⟩ := hcut
  clear HFR
  go_wp2_with fail
  refine (HD.out k hk).mono ?_
  rintro e w2 ⟨rfl, rfl⟩
  have hge := D_ge (bs s) k
  have hle := D_le (zs := bs s) (k := k) (by rw [bs_len]; exact hk)
  rw [bs_len] at hle
  obtain ⟨d, hd⟩ : ∃ d, d = D (bs s) k := ⟨_, rfl⟩
  rw [← hd] at hge hle ⊢
  have HDd : Hid (d = D (bs s) k) := hd
  clear hd
  go_upto_region 7 with fail
  go_cut [34] (fun sx wx => sx = .bool (decide (d = k ∨ (k + 1 < d ∧ z (bs s) k = 48))) ∧ wx = ((w.alloc (.cells #[.string s] 9)).alloc (.cells #[.int .i64 (d : Nat)] 3)))
  case first =>
    by_cases h0 : d = k
    · have q : (((d : Int) - k) == 0) = true := beq_iff_eq.2 (by omega)
      have HV : Hid _ := h0
      clear h0
      go_wp2
      go_meet
      exact ⟨congrArg Value.bool (decide_eq_true (Or.inl HV.out)).symm, rfl⟩
    · have q : (((d : Int) - k) == 0) = false := beq_eq_false_iff_ne.2 (by omega)
      by_cases h1 : k + 1 < d
      · have g1 : 1 < (d : Int) - k := by omega
        have hks : k < s.size := by omega
        have HB : Hid _ := bs_at s k hks
        by_cases hv : (s[k].toNat : Int) = 48
        · have q48 : ((s[k].toNat : Int) == 48) = true := beq_iff_eq.2 hv
          have HV : Hid _ := hv
          clear hv h0
          go_wp2
          go_meet
          exact ⟨congrArg Value.bool (decide_eq_true (Or.inr ⟨h1, by rw [HB.out]; exact HV.out⟩)).symm, rfl⟩
        · have q48 : ((s[k].toNat : Int) == 48) = false := beq_eq_false_iff_ne.2 hv
          have HV : Hid _ := hv
          have HZ : Hid _ := h0
          clear hv h0
          go_wp2
          go_meet
          exact ⟨congrArg Value.bool (decide_eq_false (fun x => x.elim HZ.out (fun y => HV.out (by rw [← HB.out]; exact y.2)))).symm, rfl⟩
      · have g1 : decide (1 < (d : Int) - k) = false := decide_eq_false (by omega)
        have HZ : Hid _ := h0
        clear h0
        go_wp2
        go_meet
        exact ⟨congrArg Value.bool (decide_eq_false (fun x => x.elim HZ.out (fun y => h1 y.1))).symm, rfl⟩
  case rest =>
  obtain ⟨rfl, rfl⟩ := hcut
  obtain ⟨bad, hbad⟩ : ∃ b, b = decide (d = k ∨ (k + 1 < d ∧ z (bs s) k = 48)) := ⟨_, rfl⟩
  rw [← hbad]
  have HBD : Hid _ := fun _ : True => hbad
  clear hbad
  cases bad with
  | true =>
    have HF : Hid (val (bs s) = false) := hr.out.trans (vI_bad (by rw [← HDd.out]; exact of_decide_eq_true (HBD.out trivial).symm))
    go_wp2
    go_ret
    exact ⟨ret_bool HF.out.symm, grown_two⟩
  | false =>
  have HR2 : Hid (val (bs s) = vF (bs s) d) := hr.out.trans (by rw [vI_ok (by rw [← HDd.out]; exact of_decide_eq_false (HBD.out trivial).symm), ← HDd.out])
  clear hr HDd HBD hk hge
  go_upto_region 9 with fail
  go_cut [44] (fun sx wx => sx = .bool (decide (d < s.size ∧ z (bs s) d = 46)) ∧ wx = ((w.alloc (.cells #[.string s] 9)).alloc (.cells #[.int .i64 (d : Nat)] 3)))
  case first =>
    by_cases hlt : d < s.size
    · have HB : Hid _ := bs_at s d hlt
      by_cases hv : (s[d].toNat : Int) = 46
      · have q : ((s[d].toNat : Int) == 46) = true := beq_iff_eq.2 hv
        have HV : Hid _ := hv
        clear hv
        go_wp2
        go_meet
        exact ⟨congrArg Value.bool (decide_eq_true ⟨hlt, by rw [HB.out]; exact HV.out⟩).symm, rfl⟩
      · have q : ((s[d].toNat : Int) == 46) = false := beq_eq_false_iff_ne.2 hv
        have HV : Hid _ := hv
        clear hv
        go_wp2
        go_meet
        exact ⟨congrArg Value.bool (decide_eq_false (fun x => HV.out (by rw [← HB.out]; exact x.2))).symm, rfl⟩
    · have dl : decide (d < s.size) = false := decide_eq_false hlt
      go_wp2
      go_meet
      exact ⟨congrArg Value.bool (decide_eq_false (fun x => hlt x.1)).symm, rfl⟩
  case rest =>
  obtain ⟨rfl, rfl⟩ := hcut
  obtain ⟨fr, hfr⟩ : ∃ fr, fr = decide (d < s.size ∧ z (bs s) d = 46) := ⟨_, rfl⟩
  rw [← hfr]
  have HFR : Hid _ := fun _ : True => hfr
  clear hfr
  go_upto_if 44 with fail
  go_cut [] (fun wx => ∃ x : Nat, x ≤ s.size ∧ wx = ((w.alloc (.cells #[.string s] 9)).alloc (.cells #[.int .i64 (x : Nat)] 3)) ∧ Hid (val (bs s) = vE (bs s) x))
  case first =>
    cases fr
    · have HF : Hid _ := HR2.out.trans (vF_no (fun x => of_decide_eq_false (HFR.out trivial).symm ⟨by have := bs_len s; omega, x.2⟩))
      go_wp2
      go_meet
      exact ⟨d, hle, rfl, HF⟩
    · have hx := of_decide_eq_true (HFR.out trivial).symm
      have HY : Hid (d < (bs s).length ∧ z (bs s) d = 46) := ⟨by have := bs_len s; omega, hx.2⟩
      have h0 : d < s.size := hx.1
      clear hx
      have HDm : Hid _ := fun _ : True => HDj.out (d + 1) ((d : Int) + 1) (by omega) (by omega)
      have HOK : Hid _ := @vF_ok (bs s) d HY.out
      have HBA : Hid _ := @vF_bad (bs s) d HY.out
      have hge := D_ge (bs s) (d + 1)
      have hle2 := D_le (zs := bs s) (k := d + 1) (by rw [bs_len]; omega)
      rw [bs_len] at hle2
      obtain ⟨y, hy⟩ : ∃ y, y = D (bs s) (d + 1) := ⟨_, rfl⟩
      rw [← hy] at hge hle2 HDm HOK HBA
      clear hy
      go_wp2_with fail
      refine (HDm.out trivial).mono ?_
      rintro e w2 ⟨rfl, rfl⟩
      by_cases hz : y = d + 1
      · have q' : (((y : Int) - ((d : Int) + 1)) == 0) = true := beq_iff_eq.2 (by omega)
        have HF : Hid (val (bs s) = false) := HR2.out.trans (HBA.out hz)
        clear hz
        go_wp2
        go_ret
        exact ⟨ret_bool HF.out.symm, grown_two⟩
      · have q' : (((y : Int) - ((d : Int) + 1)) == 0) = false := beq_eq_false_iff_ne.2 (by omega)
        have HF : Hid _ := HR2.out.trans (HOK.out hz)
        clear hz
        go_wp2
        go_meet
        exact ⟨y, hle2, rfl, HF⟩
  case rest =>
  obtain ⟨x, hx, rfl, hr3⟩ := hcut
  clear HFR HR2 hle
  by_cases hxn : x < s.size
  · have HB : Hid _ := bs_at s x hxn
    by_cases he : (s[x].toNat : Int) = 101 ∨ (s[x].toNat : Int) = 69
    · have HE : Hid _ := hr3.out.trans (vE_yes ⟨by rw [bs_len]; exact hxn, by rw [HB.out]; exact he⟩)
      have HSg : Hid _ := @sgn_yes (bs s) (x + 1)
      have HSn : Hid _ := @sgn_no (bs s) (x + 1)
      have hq : (((s[x].toNat : Int) == 101) = true) ∨ (((s[x].toNat : Int) == 101) = false ∧ ((s[x].toNat : Int) == 69) = true) := by
        rcases he with h | h
        · exact Or.inl (beq_iff_eq.2 h)
        · exact Or.inr ⟨beq_eq_false_iff_ne.2 (by omega), beq_iff_eq.2 h⟩
      clear he hr3 HB
      by_cases hyn : x + 1 < s.size
      · have HB2 : Hid _ := bs_at s (x + 1) hyn
        by_cases hs : (s[x + 1].toNat : Int) = 43 ∨ (s[x + 1].toNat : Int) = 45
        · have HS : Hid (sgn (bs s) (x + 1) = x + 1 + 1) := HSg.out ⟨by rw [bs_len]; exact hyn, by rw [HB2.out]; exact hs⟩
          have hq2 : (((s[x + 1].toNat : Int) == 43) = true) ∨ (((s[x + 1].toNat : Int) == 43) = false ∧ ((s[x + 1].toNat : Int) == 45) = true) := by
            rcases hs with h | h
            · exact Or.inl (beq_iff_eq.2 h)
            · exact Or.inr ⟨beq_eq_false_iff_ne.2 (by omega), beq_iff_eq.2 h⟩
          have HE2 : Hid (val (bs s) = vD (bs s) (x + 1 + 1)) := by have := HE.out; rw [HS.out] at this; exact this
          clear hs HSg HSn HB2 HE HS
          have HDm : Hid _ := fun _ : True => HDj.out (x + 1 + 1) ((x : Int) + 1 + 1) (by omega) (by omega)
          have hge := D_ge (bs s) (x + 1 + 1)
          have HOK : Hid _ := @vD_ok (bs s) (x + 1 + 1)
          have HBA : Hid _ := @vD_bad (bs s) (x + 1 + 1)
          obtain ⟨y, hy⟩ : ∃ y, y = D (bs s) (x + 1 + 1) := ⟨_, rfl⟩
          rw [← hy] at hge HDm HOK HBA
          clear hy
          rcases hq with q101 | ⟨q101, q69⟩
          all_goals
            rcases hq2 with q43 | ⟨q43, q45⟩
          all_goals
            go_wp2_with fail
            refine (HDm.out trivial).mono ?_
            rintro e w2 ⟨rfl, rfl⟩
            by_cases hz : y = x + 1 + 1
            · have q' : (((y : Int) - ((x : Int) + 1 + 1)) == 0) = true := beq_iff_eq.2 (by omega)
              have HF : Hid (val (bs s) = false) := HE2.out.trans (HBA.out hz)
              clear hz
              go_wp2
              go_ret
              exact ⟨ret_bool HF.out.symm, grown_two⟩
            · have q' : (((y : Int) - ((x : Int) + 1 + 1)) == 0) = false := beq_eq_false_iff_ne.2 (by omega)
              have HF : Hid _ := HE2.out.trans (HOK.out hz)
              clear hz
              go_wp2
              go_ret
              exact ⟨end_eq HF.out, grown_two⟩
        · have q43 : ((s[x + 1].toNat : Int) == 43) = false := beq_eq_false_iff_ne.2 (fun e => hs (Or.inl e))
          have q45 : ((s[x + 1].toNat : Int) == 45) = false := beq_eq_false_iff_ne.2 (fun e => hs (Or.inr e))
          have HS : Hid (sgn (bs s) (x + 1) = x + 1) := HSn.out (fun y => hs (by rw [← HB2.out]; exact y.2))
          have HE2 : Hid (val (bs s) = vD (bs s) (x + 1)) := by have := HE.out; rw [HS.out] at this; exact this
          clear hs HSg HSn HB2 HE HS
          have HDm : Hid _ := fun _ : True => HDj.out (x + 1) ((x : Int) + 1) (by omega) (by omega)
          have hge := D_ge (bs s) (x + 1)
          have HOK : Hid _ := @vD_ok (bs s) (x + 1)
          have HBA : Hid _ := @vD_bad (bs s) (x + 1)
          obtain ⟨y, hy⟩ : ∃ y, y = D (bs s) (x + 1) := ⟨_, rfl⟩
          rw [← hy] at hge HDm HOK HBA
          clear hy
          rcases hq with q101 | ⟨q101, q69⟩
          all_goals
            go_wp2_with fail
            refine (HDm.out trivial).mono ?_
            rintro e w2 ⟨rfl, rfl⟩
            by_cases hz : y = x + 1
            · have q' : (((y : Int) - ((x : Int) + 1)) == 0) = true := beq_iff_eq.2 (by omega)
              have HF : Hid (val (bs s) = false) := HE2.out.trans (HBA.out hz)
              clear hz
              go_wp2
              go_ret
              exact ⟨ret_bool HF.out.symm, grown_two⟩
            · have q' : (((y : Int) - ((x : Int) + 1)) == 0) = false := beq_eq_false_iff_ne.2 (by omega)
              have HF : Hid _ := HE2.out.trans (HOK.out hz)
              clear hz
              go_wp2
              go_ret
              exact ⟨end_eq HF.out, grown_two⟩
      · have dl : decide (x + 1 < s.size) = false := decide_eq_false hyn
        have HS : Hid (sgn (bs s) (x + 1) = x + 1) := HSn.out (fun y => hyn (by have := bs_len s; omega))
        have HE2 : Hid (val (bs s) = vD (bs s) (x + 1)) := by have := HE.out; rw [HS.out] at this; exact this
        clear HSg HSn HE HS
        have HDm : Hid _ := fun _ : True => HDj.out (x + 1) ((x : Int) + 1) (by omega) (by omega)
        have hge := D_ge (bs s) (x + 1)
        have HOK : Hid _ := @vD_ok (bs s) (x + 1)
        have HBA : Hid _ := @vD_bad (bs s) (x + 1)
        obtain ⟨y, hy⟩ : ∃ y, y = D (bs s) (x + 1) := ⟨_, rfl⟩
        rw [← hy] at hge HDm HOK HBA
        clear hy
        rcases hq with q101 | ⟨q101, q69⟩
        all_goals
          go_wp2_with fail
          refine (HDm.out trivial).mono ?_
          rintro e w2 ⟨rfl, rfl⟩
          by_cases hz : y = x + 1
          · have q' : (((y : Int) - ((x : Int) + 1)) == 0) = true := beq_iff_eq.2 (by omega)
            have HF : Hid (val (bs s) = false) := HE2.out.trans (HBA.out hz)
            clear hz
            go_wp2
            go_ret
            exact ⟨ret_bool HF.out.symm, grown_two⟩
          · have q' : (((y : Int) - ((x : Int) + 1)) == 0) = false := beq_eq_false_iff_ne.2 (by omega)
            have HF : Hid _ := HE2.out.trans (HOK.out hz)
            clear hz
            go_wp2
            go_ret
            exact ⟨end_eq HF.out, grown_two⟩
    · have q101 : ((s[x].toNat : Int) == 101) = false := beq_eq_false_iff_ne.2 (fun e => he (Or.inl e))
      have q69 : ((s[x].toNat : Int) == 69) = false := beq_eq_false_iff_ne.2 (fun e => he (Or.inr e))
      have HF : Hid _ := hr3.out.trans (vE_no (fun y => he (by rw [← HB.out]; exact y.2)))
      clear he hr3 HB
      go_wp2
      go_ret
      exact ⟨end_eq HF.out, grown_two⟩
  · have dl : decide (x < s.size) = false := decide_eq_false hxn
    have HF : Hid _ := hr3.out.trans (vE_no (fun y => hxn (by have := bs_len s; omega)))
    clear hr3
    go_wp2
    go_ret
    exact ⟨end_eq HF.out, grown_two⟩
end Go.Proofs.Qxb6601343a.Num
