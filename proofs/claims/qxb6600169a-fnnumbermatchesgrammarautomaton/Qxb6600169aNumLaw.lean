/-
  THE WALK of FnNumberMatchesGrammarAutomaton.
-/
import Derived.Test.Qxb6600169aModel
namespace Go.Proofs.Qxb6600169a.Num
open Go.ChangeShapes Go.WideShapes Go.ChangeAt Go.RowKit Go.Proofs.Qxb6600169a.Plain

set_option maxHeartbeats 400000 in
theorem nbytes_yes (a : Option Addr) (n c : Nat) (i : Int) (w : World) (hs : n ≤ 1048576) :
    Calls Try.prog 20 #[.slice a n c, .int .i64 i] w fun e w' => e = .returned (.bool true) ∧ w' = w := by
  go_enter Try.func20, Try.ntmps20
  go_wp2
  go_ret
  exact ⟨rfl, rfl⟩
set_option maxHeartbeats 400000 in
theorem nbytes_no (a : Option Addr) (n c : Nat) (i : Int) (w : World) (hm : n ≤ maxLen) (hs : 1048576 < n) :
    Calls Try.prog 20 #[.slice a n c, .int .i64 i] w fun e w' => e = .returned (.bool false) ∧ w' = w := by
  unfold maxLen at hm
  go_enter Try.func20, Try.ntmps20
  go_wp2
  go_ret
  exact ⟨rfl, rfl⟩

set_option maxRecDepth 100000 in
set_option maxHeartbeats 1000000 in
theorem zz_number (g n cap : Nat) (zs : List Int) (i : Nat) (w : World) (hz : zs.length = n) (hn : n ≤ 1048576) (hi : i < n)
    (hc : ∀ i, i < n → w.cell? ⟨g, i, none⟩ = some (.int .u8 (z zs i))) :
    Calls Try.prog 21 #[.slice (some ⟨g, 0, none⟩) n cap, .int .i64 i] w fun e w' => e = .returned (.tuple #[.int .i64 ((num zs i).1 : Nat), .bool (num zs i).2]) ∧ Below w.heap.size w w' := by
  have HC : Hid _ := hc
  have HZ : Hid _ := hz
  clear hc hz
  go_enter Try.func21, Try.ntmps21
  go_wp2_with fail
  refine (number_any w.heap.size g n cap zs i _ (by simp) HZ.out hn hi (fun j hj => cell_later ((Below.refl _ _).alloc (Nat.le_refl _) _) (HC.out j hj))).mono ?_
  rintro e w1 ⟨rfl, rfl⟩
  go_wp2
  go_ret2
  exact ⟨rfl, (Below.refl _ _).alloc (Nat.le_refl _) _⟩

set_option maxHeartbeats 1000000 in
theorem nlaw_big (a : Option Addr) (n cap : Nat) (i : Int) (w : World) (hm : n ≤ maxLen) (hn : 1048576 < n) :
    Calls Try.prog 8 #[.slice a n cap, .int .i64 i] w fun e w' => e = .returned (.bool true) ∧ w' = w := by
  go_enter Try.func8, Try.ntmps8
  go_wp2_with (go_at_call 20; refine (nbytes_no _ _ _ _ _ hm hn).mono ?_; rintro e w' ⟨rfl, rfl⟩)
  go_ret
  exact ⟨rfl, rfl⟩
set_option maxHeartbeats 1000000 in
theorem nlaw_neg (a : Option Addr) (n cap : Nat) (i : Int) (w : World) (hn : n ≤ 1048576) (hi : i < 0) :
    Calls Try.prog 8 #[.slice a n cap, .int .i64 i] w fun e w' => e = .returned (.bool true) ∧ w' = w := by
  go_enter Try.func8, Try.ntmps8
  go_wp2_with (go_at_call 20; refine (nbytes_yes _ _ _ _ _ hn).mono ?_; rintro e w' ⟨rfl, rfl⟩)
  go_ret
  exact ⟨rfl, rfl⟩
set_option maxHeartbeats 1000000 in
theorem nlaw_out (a : Option Addr) (n cap : Nat) (i : Int) (w : World) (hn : n ≤ 1048576) (h0 : 0 ≤ i) (hi : (n : Int) ≤ i) :
    Calls Try.prog 8 #[.slice a n cap, .int .i64 i] w fun e w' => e = .returned (.bool true) ∧ w' = w := by
  go_enter Try.func8, Try.ntmps8
  go_wp2_with (go_at_call 20; refine (nbytes_yes _ _ _ _ _ hn).mono ?_; rintro e w' ⟨rfl, rfl⟩)
  go_ret
  exact ⟨rfl, rfl⟩

theorem pair_law {x y : Nat × Bool} (h : x = y) : (((x.1 : Int) == (y.1 : Int)) = true) ∧ ((x.2 == y.2) = true) := by subst h; simp

set_option maxRecDepth 100000 in
set_option maxHeartbeats 2000000 in
theorem nlaw_some (a : Addr) (n cap : Nat) (zs : List Int) (i : Nat) (w : World) (hn : n ≤ 1048576) (hi0 : i < n) (hz : zs.length = n) (hcell : ∀ i, i < n → w.cell? (a.add i) = some (.int .u8 (zs.getD i 0))) :
    Calls Try.prog 8 #[.slice (some a) n cap, .int .i64 i] w fun e w' => e = .returned (.bool true) ∧ Below w.heap.size w w' := by
  obtain ⟨i0, hi, hz0, hz1, hz2⟩ := info_parts info5
  have HZ : Hid _ := hz
  have HC : Hid _ := hcell
  clear hz hcell
  go_enter Try.func8, Try.ntmps8
  go_wp2_with (first | (go_at_call 20; refine (nbytes_yes _ _ _ _ _ hn).mono ?_; rintro e w' ⟨rfl, rfl⟩) | (at_make; refine wpList_make_full _ rfl _ _ 22 rfl w'.heap.size 5 i0 (.int .u8 0) 1 Try.underlying22 hi hz0 hz1 .i64 .i64 _ _ n rfl rfl rfl rfl ?b2 ?b3 ?b4 ?_))
  case b2 => rw [hz2]; omega
  case b3 => unfold maxLen; omega
  case b4 => omega
  intro w1 hown hgrow
  have hbel : Below w'.heap.size w' w1 := (Below.refl _ _).grown hgrow (Nat.le_refl _) (fun k h => by cases h)
  obtain ⟨M, hM, hg⟩ := made_row hown
  have HM : Hid _ := hM
  clear hM hown hgrow
  have HC1 : Hid (∀ j v, (cellsOf zs)[j]? = some v → w1.cell? (a.add j) = some v) := fun j v hv => by
    obtain ⟨hj, rfl⟩ := cellsOf_get hv
    exact cell_later hbel (HC.out j (by have := HZ.out; omega))
  have hlen : (cellsOf zs).length = n := by rw [cellsOf_length]; exact HZ.out
  have HL : Hid _ := hlen
  have HG : Hid _ := hg
  have HB : Hid _ := hbel
  clear hlen hg HC hbel
  go_wp2_with (refine wpList_copy_splice rfl _ _ 22 22 rfl 5 Try.underlying22 size5 _ _ _ _ _ _ rfl rfl w'.heap.size 0 M 5 HG.out (cellsOf zs) ?n ?pos ?fit (cellsOf_one zs) w'.heap.size w' HB.out (Nat.le_refl _) ?_)
  case n => rw [HL.out]; simp
  case pos => first | exact fun _ => HC1.out | exact fun _ => ⟨rfl, a, rfl, HC1.out⟩
  case fit => rw [HL.out, HM.out]; omega
  intro w2 hg2 hb2
  have hrow : Hid (∀ i, i < n → w2.cell? ⟨w'.heap.size, i, none⟩ = some (.int .u8 (zs.getD i 0))) := row_after HZ.out HM.out hg2.out
  have HB2 : Hid _ := fun _ : True => hb2
  have hlt2 : w'.heap.size < w2.heap.size := by
    rcases Nat.lt_or_ge w'.heap.size w2.heap.size with h | h
    · exact h
    · have := hg2.out; simp [Array.getElem?_eq_none h] at this
  have HLT : Hid _ := hlt2
  clear HG HB HC1 hg2 hb2 hlt2 HL HM hi hz0 hz1 hz2
  go_wp2_with fail
  refine (zz_number w'.heap.size n n zs i w2 HZ.out hn hi0 hrow.out).mono ?_
  rintro e w3 ⟨rfl, hb3⟩
  have hrow3 : Hid (∀ i, i < n → w3.cell? ⟨w'.heap.size, i, none⟩ = some (.int .u8 (zs.getD i 0))) := fun j hj => cell_later hb3 (hrow.out j hj)
  have HB3 : Hid _ := fun _ : True => (HB2.out trivial).trans (hb3.mono (Nat.le_of_lt HLT.out))
  clear hb3 HB2 HLT hrow
  obtain ⟨p1, p2⟩ := pair_law (A_num (zs := zs) (i := i) (by have := HZ.out; omega)).symm
  obtain ⟨x, hx⟩ : ∃ x, x = num zs i := ⟨_, rfl⟩
  rw [← hx] at p1 p2 ⊢
  clear hx
  go_wp2_with fail
  refine (model_any w'.heap.size n n zs i w3 HZ.out hn hi0 hrow3.out).mono ?_
  rintro e w4 ⟨rfl, rfl⟩
  obtain ⟨y, hy⟩ : ∃ y, y = A zs 0 i := ⟨_, rfl⟩
  rw [← hy] at p1 p2 ⊢
  clear hy
  go_wp2
  go_ret
  exact ⟨rfl, HB3.out trivial⟩

/-- THE LAW's WALK. -/
theorem nlaw (a0 : Option Addr) (len0 cap0 : Nat) (z0 : List Int) (a1 : Int) (w : World) (w0 : IsRow8 w a0 len0 cap0 z0) :
    Calls Try.prog 8 #[.slice a0 len0 cap0, .int .i64 a1] w fun e w' => e = .returned (.bool true) ∧ Below w.heap.size w w' := by
  have hm : len0 ≤ maxLen := by
    rcases w0 with ⟨_, rfl, _, _⟩ | ⟨x, _, h1, h2, _⟩
    · exact Nat.zero_le _
    · omega
  by_cases hn : len0 ≤ 1048576
  · by_cases h0 : a1 < 0
    · refine (nlaw_neg a0 len0 cap0 a1 w hn h0).mono ?_
      rintro e w' ⟨rfl, rfl⟩
      exact ⟨rfl, Below.refl _ _⟩
    · by_cases h1 : (len0 : Int) ≤ a1
      · refine (nlaw_out a0 len0 cap0 a1 w hn (by omega) h1).mono ?_
        rintro e w' ⟨rfl, rfl⟩
        exact ⟨rfl, Below.refl _ _⟩
      · obtain ⟨i, rfl⟩ := Int.eq_ofNat_of_zero_le (by omega : 0 ≤ a1)
        rcases w0 with ⟨_, rfl, _, _⟩ | ⟨x, rfl, hl, _, hz, hc, hw⟩
        · exfalso; simp at h1
        · refine nlaw_some x len0 cap0 (z0.take len0) i w hn (by omega) (by simp; omega) ?_
          intro j hj
          rw [take_getD, if_pos hj]
          exact hc j (by omega)
  · refine (nlaw_big a0 len0 cap0 a1 w hm (by omega)).mono ?_
    rintro e w' ⟨rfl, rfl⟩
    exact ⟨rfl, Below.refl _ _⟩
end Go.Proofs.Qxb6600169a.Num
