/-
  THE WALK of FnCanonicalKeyReadsBack: the key read back.
-/
import Derived.Test.Qxb6600041aBackA
import Derived.Test.Qxb6600041aReadW
import Derived.Test.Qxb6600041aKeyLaw
namespace Go.Proofs.Qxb6600041a.Read
open Go.ChangeShapes Go.WideShapes Go.ChangeAt Go.RowKit Go.Proofs.Qxb6600041a.Key


theorem dR_toList (o n : ByteArray) : (!o.toList.isEmpty || !n.toList.isEmpty) = dR o n := by
  unfold dR
  rw [ByteArray.toList_eq, ByteArray.toList_eq, Bool.not_and]
theorem dF_toList (o : ByteArray) : (!o.toList.isEmpty) = dF o := by
  unfold dF
  rw [ByteArray.toList_eq]
theorem exp_yes {a : ByteArray} (h : a.toList = [101, 120, 112, 108, 105, 99, 105, 116]) : explicit (L a) = true := by
  unfold explicit
  rw [ByteArray.toList_eq] at h
  simp [h]
theorem exp_no {a : ByteArray} (h : ¬ a.toList = [101, 120, 112, 108, 105, 99, 105, 116]) : explicit (L a) = false := by
  unfold explicit
  rw [ByteArray.toList_eq] at h
  simp [h]
theorem key_some (f u b o n r p ns k wn c : ByteArray) (w : World) (hu : u.size ≤ 65536) (hb : b.size ≤ 65536) (ho : o.size ≤ 65536) (hn : n.size ≤ 65536) (hr : r.size ≤ 65536) (hns : ns.size ≤ 65536) (hk : k.size ≤ 65536) (hwn : wn.size ≤ 65536) :
    Calls Try.prog 16 #[.agg #[.string f, .string u, .string b, .string o, .string n, .string r, .string p, .string ns, .string k, .string wn, .string c]] w fun e w' =>
      ∃ X : List UInt8, Hid (X = key (explicit (L f)) (L u) (L b) (L o) (L n) (L r) (L ns) (L k) (L wn)) ∧ e = .returned (.string ⟨X.toArray⟩) ∧ Below w.heap.size w w' :=
  (key_any f u b o n r p ns k wn c w hu hb ho hn hr hns hk hwn).mono fun _ _ h => ⟨_, rfl, h.1, h.2⟩

theorem read_true (u b o n r ns k wn : ByteArray) (X : List UInt8) (w : World) (hX : X = key true (L u) (L b) (L o) (L n) (L r) (L ns) (L k) (L wn))
    (hu : u.size ≤ 65536) (hb : b.size ≤ 65536) (ho : o.size ≤ 65536) (hn : n.size ≤ 65536) (hr : r.size ≤ 65536) (hns : ns.size ≤ 65536) (hk : k.size ≤ 65536) (hwn : wn.size ≤ 65536)
    (h1 : hasB u 124 = false) (h2 : hasB b 124 = false) (h3 : hasB o 124 = false) (h4 : hasB n 124 = false) (h5 : hasB r 124 = false) (h7 : hasB ns 124 = false) (h8 : hasB k 124 = false) (h9 : hasB wn 124 = false) (g3 : hasB o 47 = false) (g8 : hasB k 47 = false) :
    Calls Try.prog 20 #[.string ⟨X.toArray⟩] w fun e w' => e = .returned (.agg #[.bool true, .string u, .bool (!o.toList.isEmpty || !n.toList.isEmpty), .string o, .string n, .bool (!r.toList.isEmpty), .string r, .bool true, .string b, .bool (!k.toList.isEmpty || !wn.toList.isEmpty), .string k, .string wn, .bool (!ns.toList.isEmpty), .string ns]) ∧ Below w.heap.size w w' := by
  have hL : L (⟨X.toArray⟩ : ByteArray) = X := by simp [L]
  refine (read_any _ (fin true u b o n r ns k wn) w ?_ ?_).mono ?_
  · have := key_len true u b o n r ns k wn hu hb ho hn hr hns hk hwn
    rw [← len_list, hL, hX]
    exact this
  · exact reads true u b o n r ns k wn _ (by rw [hL]; exact hX) (hasB_not rfl h1) (fun _ => hasB_not rfl h2) (hasB_not rfl h3) (hasB_not rfl h4) (hasB_not rfl h5) (hasB_not rfl h7) (hasB_not rfl h8) (hasB_not rfl h9) (hasB_not rfl g3) (hasB_not rfl g8)
  · rintro e w' ⟨rfl, hb⟩
    refine ⟨?_, hb⟩
    rw [dR_toList, dR_toList, dF_toList, dF_toList]
    rfl
theorem read_false (u b o n r ns k wn : ByteArray) (X : List UInt8) (w : World) (hX : X = key false (L u) (L b) (L o) (L n) (L r) (L ns) (L k) (L wn))
    (hu : u.size ≤ 65536) (hb : b.size ≤ 65536) (ho : o.size ≤ 65536) (hn : n.size ≤ 65536) (hr : r.size ≤ 65536) (hns : ns.size ≤ 65536) (hk : k.size ≤ 65536) (hwn : wn.size ≤ 65536)
    (h1 : hasB u 124 = false) (h3 : hasB o 124 = false) (h4 : hasB n 124 = false) (h5 : hasB r 124 = false) (h7 : hasB ns 124 = false) (h8 : hasB k 124 = false) (h9 : hasB wn 124 = false) (g3 : hasB o 47 = false) (g8 : hasB k 47 = false) :
    Calls Try.prog 20 #[.string ⟨X.toArray⟩] w fun e w' => e = .returned (.agg #[.bool true, .string u, .bool (!o.toList.isEmpty || !n.toList.isEmpty), .string o, .string n, .bool (!r.toList.isEmpty), .string r, .bool false, .string ⟨#[]⟩, .bool (!k.toList.isEmpty || !wn.toList.isEmpty), .string k, .string wn, .bool (!ns.toList.isEmpty), .string ns]) ∧ Below w.heap.size w w' := by
  have hL : L (⟨X.toArray⟩ : ByteArray) = X := by simp [L]
  refine (read_any _ (fin false u b o n r ns k wn) w ?_ ?_).mono ?_
  · have := key_len false u b o n r ns k wn hu hb ho hn hr hns hk hwn
    rw [← len_list, hL, hX]
    exact this
  · exact reads false u b o n r ns k wn _ (by rw [hL]; exact hX) (hasB_not rfl h1) (fun h => by cases h) (hasB_not rfl h3) (hasB_not rfl h4) (hasB_not rfl h5) (hasB_not rfl h7) (hasB_not rfl h8) (hasB_not rfl h9) (hasB_not rfl g3) (hasB_not rfl g8)
  · rintro e w' ⟨rfl, hb⟩
    refine ⟨?_, hb⟩
    rw [dR_toList, dR_toList, dF_toList, dF_toList]
    rfl

theorem back_below {w w1 w2 : World} {o1 o2 o3 : Obj} (h1 : Below ((w.alloc o1).alloc o2).heap.size ((w.alloc o1).alloc o2) w1) (h2 : Below w1.heap.size w1 w2) : Below w.heap.size w (w2.alloc o3) := by
  have hs := h1.size
  have hz : ((w.alloc o1).alloc o2).heap.size = w.heap.size + 2 := by simp
  have h0 : Below w.heap.size w ((w.alloc o1).alloc o2) := ((Below.refl _ _).alloc (Nat.le_refl _) _).alloc (by simp) _
  have h3 := h2.size
  exact ((h0.trans (h1.mono (by omega))).trans (h2.mono (by omega))).alloc (by omega) _

set_option maxRecDepth 100000 in
set_option maxHeartbeats 4000000 in
theorem good_true (a0 a1 a2 a3 a4 a5 a6 a7 a8 a9 a10 : ByteArray) (w : World) (h0 : a0.size ≤ 65536) (h1 : a1.size ≤ 65536) (h2 : a2.size ≤ 65536) (h3 : a3.size ≤ 65536) (h4 : a4.size ≤ 65536) (h5 : a5.size ≤ 65536) (h6 : a6.size ≤ 65536) (h7 : a7.size ≤ 65536) (h8 : a8.size ≤ 65536) (h9 : a9.size ≤ 65536) (h10 : a10.size ≤ 65536) (b1 : hasB a1 124 = false) (b2 : hasB a2 124 = false) (b3 : hasB a3 124 = false) (b4 : hasB a4 124 = false) (b5 : hasB a5 124 = false) (b7 : hasB a7 124 = false) (b8 : hasB a8 124 = false) (b9 : hasB a9 124 = false) (c3 : hasB a3 47 = false) (c8 : hasB a8 47 = false) (hx : (a0.toList == [101, 120, 112, 108, 105, 99, 105, 116]) = true) :
    Calls Try.prog 8 #[.string a0, .string a1, .string a2, .string a3, .string a4, .string a5, .string a6, .string a7, .string a8, .string a9, .string a10] w fun e w' => e = .returned (.bool true) ∧ Below w.heap.size w w' := by
  have hexp : explicit (L a0) = true := by unfold explicit; rw [ByteArray.toList_eq] at hx; exact hx
  have HR : Hid _ := fun X w hX => read_true a1 a2 a3 a4 a5 a7 a8 a9 X w hX h1 h2 h3 h4 h5 h7 h8 h9 b1 b2 b3 b4 b5 b7 b8 b9 c3 c8
  have HE : Hid _ := hexp
  clear hexp
  have HZ : Hid _ := fun w => bytes18 a0 a1 a2 a3 a4 a5 a6 a7 a8 a9 a10 w (by unfold maxLen; omega) (by unfold maxLen; omega) (by unfold maxLen; omega) (by unfold maxLen; omega) (by unfold maxLen; omega) (by unfold maxLen; omega) (by unfold maxLen; omega) (by unfold maxLen; omega) (by unfold maxLen; omega) (by unfold maxLen; omega) (by unfold maxLen; omega)
  go_enter Try.func8, Try.ntmps8
  go_upto_region 18 with (first | (go_at_call 18; refine (HZ.out _).mono ?_; rintro e w' ⟨v, rfl, rfl⟩; clear HZ; cases v) | (go_at_call 19; refine (has_any _ _ _ (by assumption)).mono ?_; rintro e w1 ⟨rfl, rfl⟩))
  · go_ret
    exact ⟨rfl, Below.refl _ _⟩
  clear b1 b3 b4 b5 b7 b8 b9 c3 c8 b2
  go_upto_region 19 with (go_at_call 15; refine (req_any _ _ _ _ _ _ _ _ _ _ _ _).mono ?_; rintro e w2 ⟨rfl, rfl⟩)
  go_wp2_with fail
  refine (key_some a0 a1 a2 a3 a4 a5 a6 a7 a8 a9 a10 _ h1 h2 h3 h4 h5 h7 h8 h9).mono ?_
  rintro e w3 ⟨X, hX, rfl, hb⟩
  have HX : Hid (X = key true (L a1) (L a2) (L a3) (L a4) (L a5) (L a7) (L a8) (L a9)) := by
    have := hX.out
    rw [HE.out] at this
    exact this
  have HB : Hid _ := fun _ : True => hb
  clear hX hb
  go_wp2_with fail
  refine (HR.out X _ HX.out).mono ?_
  rintro e w4 ⟨rfl, hb4⟩
  have HB4 : Hid _ := fun _ : True => hb4
  clear hb4 HR HX HE
  go_upto_region 25 with fail
  simp only [List.append_eq, List.cons_append, List.nil_append]
  cases e3 : a3.toList.isEmpty
  all_goals
    cases e8 : a8.toList.isEmpty
  all_goals
    go_wp2_with fail
  all_goals
    go_ret
    exact ⟨rfl, back_below (HB.out trivial) (HB4.out trivial)⟩

set_option maxRecDepth 100000 in
set_option maxHeartbeats 4000000 in
theorem good_false (a0 a1 a2 a3 a4 a5 a6 a7 a8 a9 a10 : ByteArray) (w : World) (h0 : a0.size ≤ 65536) (h1 : a1.size ≤ 65536) (h2 : a2.size ≤ 65536) (h3 : a3.size ≤ 65536) (h4 : a4.size ≤ 65536) (h5 : a5.size ≤ 65536) (h6 : a6.size ≤ 65536) (h7 : a7.size ≤ 65536) (h8 : a8.size ≤ 65536) (h9 : a9.size ≤ 65536) (h10 : a10.size ≤ 65536) (b1 : hasB a1 124 = false) (b3 : hasB a3 124 = false) (b4 : hasB a4 124 = false) (b5 : hasB a5 124 = false) (b7 : hasB a7 124 = false) (b8 : hasB a8 124 = false) (b9 : hasB a9 124 = false) (c3 : hasB a3 47 = false) (c8 : hasB a8 47 = false) (hx : (a0.toList == [101, 120, 112, 108, 105, 99, 105, 116]) = false) :
    Calls Try.prog 8 #[.string a0, .string a1, .string a2, .string a3, .string a4, .string a5, .string a6, .string a7, .string a8, .string a9, .string a10] w fun e w' => e = .returned (.bool true) ∧ Below w.heap.size w w' := by
  have hexp : explicit (L a0) = false := by unfold explicit; rw [ByteArray.toList_eq] at hx; exact hx
  have HR : Hid _ := fun X w hX => read_false a1 a2 a3 a4 a5 a7 a8 a9 X w hX h1 h2 h3 h4 h5 h7 h8 h9 b1 b3 b4 b5 b7 b8 b9 c3 c8
  have HE : Hid _ := hexp
  clear hexp
  have HZ : Hid _ := fun w => bytes18 a0 a1 a2 a3 a4 a5 a6 a7 a8 a9 a10 w (by unfold maxLen; omega) (by unfold maxLen; omega) (by unfold maxLen; omega) (by unfold maxLen; omega) (by unfold maxLen; omega) (by unfold maxLen; omega) (by unfold maxLen; omega) (by unfold maxLen; omega) (by unfold maxLen; omega) (by unfold maxLen; omega) (by unfold maxLen; omega)
  go_enter Try.func8, Try.ntmps8
  go_upto_region 18 with (first | (go_at_call 18; refine (HZ.out _).mono ?_; rintro e w' ⟨v, rfl, rfl⟩; clear HZ; cases v) | (go_at_call 19; refine (has_any _ _ _ (by assumption)).mono ?_; rintro e w1 ⟨rfl, rfl⟩))
  · go_ret
    exact ⟨rfl, Below.refl _ _⟩
  clear b1 b3 b4 b5 b7 b8 b9 c3 c8
  go_upto_region 19 with (go_at_call 15; refine (req_any _ _ _ _ _ _ _ _ _ _ _ _).mono ?_; rintro e w2 ⟨rfl, rfl⟩)
  go_wp2_with fail
  refine (key_some a0 a1 a2 a3 a4 a5 a6 a7 a8 a9 a10 _ h1 h2 h3 h4 h5 h7 h8 h9).mono ?_
  rintro e w3 ⟨X, hX, rfl, hb⟩
  have HX : Hid (X = key false (L a1) (L a2) (L a3) (L a4) (L a5) (L a7) (L a8) (L a9)) := by
    have := hX.out
    rw [HE.out] at this
    exact this
  have HB : Hid _ := fun _ : True => hb
  clear hX hb
  go_wp2_with fail
  refine (HR.out X _ HX.out).mono ?_
  rintro e w4 ⟨rfl, hb4⟩
  have HB4 : Hid _ := fun _ : True => hb4
  clear hb4 HR HX HE
  go_upto_region 25 with fail
  simp only [List.append_eq, List.cons_append, List.nil_append]
  cases e3 : a3.toList.isEmpty
  all_goals
    cases e8 : a8.toList.isEmpty
  all_goals
    go_wp2_with fail
  all_goals
    go_ret
    exact ⟨rfl, back_below (HB.out trivial) (HB4.out trivial)⟩


/-- THE LAW's WALK. -/
theorem back_walk (a0 a1 a2 a3 a4 a5 a6 a7 a8 a9 a10 : ByteArray) (w : World) (h0 : a0.size ≤ maxLen) (h1 : a1.size ≤ maxLen) (h2 : a2.size ≤ maxLen) (h3 : a3.size ≤ maxLen) (h4 : a4.size ≤ maxLen) (h5 : a5.size ≤ maxLen) (h6 : a6.size ≤ maxLen) (h7 : a7.size ≤ maxLen) (h8 : a8.size ≤ maxLen) (h9 : a9.size ≤ maxLen) (h10 : a10.size ≤ maxLen) :
    Calls Try.prog 8 #[.string a0, .string a1, .string a2, .string a3, .string a4, .string a5, .string a6, .string a7, .string a8, .string a9, .string a10] w fun e w' => e = .returned (.bool true) ∧ Below w.heap.size w w' := by
  by_cases h : a0.size ≤ 65536 ∧ a1.size ≤ 65536 ∧ a2.size ≤ 65536 ∧ a3.size ≤ 65536 ∧ a4.size ≤ 65536 ∧ a5.size ≤ 65536 ∧ a6.size ≤ 65536 ∧ a7.size ≤ 65536 ∧ a8.size ≤ 65536 ∧ a9.size ≤ 65536 ∧ a10.size ≤ 65536
  · obtain ⟨g0, g1, g2, g3, g4, g5, g6, g7, g8, g9, g10⟩ := h
    by_cases hg : Good a0 a1 a2 a3 a4 a5 a6 a7 a8 a9 a10
    · obtain ⟨b1, b3, b4, b5, b7, b8, b9, b2, c3, c8⟩ := hg
      cases hx : (a0.toList == [101, 120, 112, 108, 105, 99, 105, 116]) with
      | true => exact good_true a0 a1 a2 a3 a4 a5 a6 a7 a8 a9 a10 w g0 g1 g2 g3 g4 g5 g6 g7 g8 g9 g10 b1 (b2 hx) b3 b4 b5 b7 b8 b9 c3 c8 hx
      | false => exact good_false a0 a1 a2 a3 a4 a5 a6 a7 a8 a9 a10 w g0 g1 g2 g3 g4 g5 g6 g7 g8 g9 g10 b1 b3 b4 b5 b7 b8 b9 c3 c8 hx
    · refine (back_bad a0 a1 a2 a3 a4 a5 a6 a7 a8 a9 a10 w g0 g1 g2 g3 g4 g5 g6 g7 g8 g9 g10 hg).mono ?_
      rintro e w' ⟨rfl, rfl⟩
      exact ⟨rfl, Below.refl _ _⟩
  · refine (back_long a0 a1 a2 a3 a4 a5 a6 a7 a8 a9 a10 w h0 h1 h2 h3 h4 h5 h6 h7 h8 h9 h10 h).mono ?_
    rintro e w' ⟨rfl, rfl⟩
    exact ⟨rfl, Below.refl _ _⟩
end Go.Proofs.Qxb6600041a.Read
