/-
  THE WALK of readKeyB1 at a key that reads.
-/
import Derived.Test.Qxb6600041aRead
namespace Go.Proofs.Qxb6600041a.Read
open Go.ChangeShapes Go.WideShapes Go.ChangeAt Go.RowKit Go.Proofs.Qxb6600041a.Key

/-- The reader's start. -/
def init : PS := ⟨true, 0, ⟨#[]⟩, false, ⟨#[]⟩, ⟨#[]⟩, false, ⟨#[]⟩, false, ⟨#[]⟩, false, ⟨#[]⟩, ⟨#[]⟩, false, ⟨#[]⟩⟩

set_option maxHeartbeats 400000 in
theorem rank1 (w : World) : Calls Try.prog 26 #[.string ⟨#[114]⟩] w fun e w' => e = .returned (.int .i64 1) ∧ w' = w := by
  go_enter Try.func26, Try.ntmps26
  go_wp2
  go_ret
  exact ⟨rfl, rfl⟩
set_option maxHeartbeats 400000 in
theorem rank2 (w : World) : Calls Try.prog 26 #[.string ⟨#[114, 101, 102]⟩] w fun e w' => e = .returned (.int .i64 2) ∧ w' = w := by
  go_enter Try.func26, Try.ntmps26
  go_wp2
  go_ret
  exact ⟨rfl, rfl⟩
set_option maxHeartbeats 400000 in
theorem rank3 (w : World) : Calls Try.prog 26 #[.string ⟨#[98, 112]⟩] w fun e w' => e = .returned (.int .i64 3) ∧ w' = w := by
  go_enter Try.func26, Try.ntmps26
  go_wp2
  go_ret
  exact ⟨rfl, rfl⟩
set_option maxHeartbeats 400000 in
theorem rank4 (w : World) : Calls Try.prog 26 #[.string ⟨#[119, 111, 114, 107, 108, 111, 97, 100]⟩] w fun e w' => e = .returned (.int .i64 4) ∧ w' = w := by
  go_enter Try.func26, Try.ntmps26
  go_wp2
  go_ret
  exact ⟨rfl, rfl⟩
set_option maxHeartbeats 400000 in
theorem rank5 (w : World) : Calls Try.prog 26 #[.string ⟨#[110, 115]⟩] w fun e w' => e = .returned (.int .i64 5) ∧ w' = w := by
  go_enter Try.func26, Try.ntmps26
  go_wp2
  go_ret
  exact ⟨rfl, rfl⟩

theorem finish {w : World} {o1 o2 : Obj} : Below w.heap.size w ((w.alloc o1).alloc o2) := ((Below.refl _ _).alloc (Nat.le_refl _) _).alloc (by simp) _
theorem byte_at {S : ByteArray} {x : List UInt8} (h : L S = x) (j : Nat) (c : UInt8) (n : Int) (hj : j < S.size) (hc : x[j]? = some c) (hn : (c.toNat : Int) = n) : (((S[j]'hj).toNat : Int) != n) = false := by
  have e := at_list S j hj
  rw [h, hc, Option.some.injEq] at e
  rw [e, hn]
  simp
theorem neq_bar {x : Int} (h : x = 124) : (x != 124) = false := by rw [h]; rfl

set_option maxRecDepth 100000 in
set_option maxHeartbeats 8000000 in
theorem read_any (K : ByteArray) (f : PS) (w : World) (hm : K.size ≤ 1048576) (hK : Inv K f 0 0 init) :
    Calls Try.prog 20 #[.string K] w fun e w' => e = .returned (.agg #[.bool true, .string f.user, .bool f.hasRepo, .string f.owner, .string f.name, .bool f.hasRef, .string f.ref, .bool f.hasBP, .string f.bp, .bool f.hasWL, .string f.kind, .string f.wname, .bool f.hasNS, .string f.ns]) ∧ Below w.heap.size w w' := by
  have HK : Hid _ := hK
  clear hK
  go_enter Try.func20, Try.ntmps20
  go_wp2
  go_loopw [4, 5, 6, 7] (fun s4 s5 s6 s7 w' => ∃ (p : PS) (fi : Bool) (a i : Nat), s4 = .int .i64 a ∧ s5 = .bool fi ∧ Hid (fi = p.first) ∧ s6 = .int .i64 p.last ∧ s7 = .int .i64 i ∧ i ≤ K.size + 1 ∧ Hid (Inv K f a i p) ∧ w' = (w.alloc (.cells #[.bool false, .string init.user, .bool init.hasRepo, .string init.owner, .string init.name, .bool init.hasRef, .string init.ref, .bool init.hasBP, .string init.bp, .bool init.hasWL, .string init.kind, .string init.wname, .bool init.hasNS, .string init.ns] 36)).alloc (.cells #[.bool false, .string p.user, .bool p.hasRepo, .string p.owner, .string p.name, .bool p.hasRef, .string p.ref, .bool p.hasBP, .string p.bp, .bool p.hasWL, .string p.kind, .string p.wname, .bool p.hasNS, .string p.ns] 36)) (fun _ _ _ i _ => K.size + 2 - (intOf i).toNat)
  case atStart =>
    exact ⟨init, true, 0, 0, rfl, rfl, rfl, rfl, rfl, by omega, HK, rfl⟩
  case round =>
    obtain ⟨p, fi, a, i, rfl, rfl, hfi, rfl, rfl, hi, hr, rfl⟩ := hrel
    rcases inv_cases hr.out with ⟨ha, h1, hlt, h2⟩ | ⟨ha, hle, h1, S, q, hS, hst, h2⟩ | ⟨h1, ha, rfl⟩
    · have hq : (((K[i]'hlt).toNat : Int) != 124) = true := by rw [bne_iff_ne]; exact h2
      have HI : Hid _ := h1
      clear h1 h2
      go_wp2
      go_roundw
      case rel => exact ⟨p, fi, a, i + 1, rfl, rfl, hfi, rfl, by go_num, by omega, HI, rfl⟩
      case measure => simp [intOf]; omega
    · have HI : Hid _ := h2
      clear h2 hr
      rcases hst with ⟨hp, U, hU, rfl⟩ | ⟨hp, hl, O, N, hU, hno, rfl⟩ | ⟨hp, hl, U, hU, rfl⟩ | ⟨hp, hl, U, hU, rfl⟩ | ⟨hp, hl, O, N, hU, hno, rfl⟩ | ⟨hp, hl, U, hU, rfl⟩
      · have hf := hfi.out
        rw [hp] at hf
        subst hf
        clear hp hfi
        have hsz := size_of hU
        simp only [List.length_cons, List.length_nil] at hsz
        have hsz2 : 2 ≤ S.size := by omega
        clear hsz
        have hx : S.extract 2 S.size = U := cut_tail hU
        have q0 := byte_at hU 0 117 117 (by omega) rfl rfl
        have q1 := byte_at hU 1 61 61 (by omega) rfl rfl
        clear hU
        by_cases hlt : i < K.size
        · have hq := neq_bar (h1 hlt)
          clear h1
          go_wp2_with fail
          go_roundw
          case rel => exact ⟨{ p with first := false, user := U }, false, i + 1, i + 1, by go_num, rfl, rfl, rfl, by go_num, by omega, HI, rfl⟩
          case measure => simp [intOf]; omega
        · clear h1
          go_wp2_with fail
          go_roundw
          case rel => exact ⟨{ p with first := false, user := U }, false, i + 1, i + 1, by go_num, rfl, rfl, rfl, by go_num, by omega, HI, rfl⟩
          case measure => simp [intOf]; omega
      · have hf := hfi.out
        rw [hp] at hf
        subst hf
        have HF : Hid (false = p.first) := hp.symm
        clear hp hfi
        obtain ⟨V, hV⟩ : ∃ V : ByteArray, L V = L O ++ ([47] ++ L N) := ⟨⟨(L O ++ ([47] ++ L N)).toArray⟩, by simp [L]⟩
        rw [← hV] at hU
        have hsz := size_of hU
        simp only [List.length_cons, List.length_nil] at hsz
        have hsz2 : 2 ≤ S.size := by omega
        have hlS : S.size ≤ 1048576 := by rw [← hS]; simp; omega
        have hlV : V.size ≤ 1048576 := by omega
        clear hsz
        have hx : S.extract 2 S.size = V := cut_tail hU
        have ht : S.extract 0 1 = ⟨#[114]⟩ := cut_head (V := ⟨#[114]⟩) (post := 61 :: L V) hU
        have H25 : Hid _ := fun w => index_at S 61 61 [114] (L V) w rfl hlS hU (by decide) 1 rfl
        have H25b : Hid _ := fun w => index_at V 47 47 (L O) (L N) w rfl hlV hV hno O.size (by rw [len_list])
        have hvo : V.extract 0 O.size = O := cut_head hV
        have hvn : V.extract (O.size + 1) V.size = N := by
          have := cut_tail (S := V) (pre := L O ++ [47]) (V := N) (by rw [hV]; simp)
          simpa using this
        have hvs : O.size + 1 ≤ V.size := by
          have := congrArg List.length hV
          simp at this
          omega
        clear hU hV hno
        by_cases hlt : i < K.size
        · have hq := neq_bar (h1 hlt)
          clear h1
          go_wp2_with fail
          refine (H25.out _).mono ?_
          rintro e w1 ⟨rfl, rfl⟩
          go_wp2_with (go_at_call 26; refine (rank1 _).mono ?_; rintro e w2 ⟨rfl, rfl⟩)
          refine (H25b.out _).mono ?_
          rintro e w3 ⟨rfl, rfl⟩
          go_wp2_with fail
          go_roundw
          case rel => exact ⟨{ p with last := 1, hasRepo := true, owner := O, name := N }, false, i + 1, i + 1, by go_num, rfl, HF, rfl, by go_num, by omega, HI, rfl⟩
          case measure => simp [intOf]; omega
        · clear h1
          go_wp2_with fail
          refine (H25.out _).mono ?_
          rintro e w1 ⟨rfl, rfl⟩
          go_wp2_with (go_at_call 26; refine (rank1 _).mono ?_; rintro e w2 ⟨rfl, rfl⟩)
          refine (H25b.out _).mono ?_
          rintro e w3 ⟨rfl, rfl⟩
          go_wp2_with fail
          go_roundw
          case rel => exact ⟨{ p with last := 1, hasRepo := true, owner := O, name := N }, false, i + 1, i + 1, by go_num, rfl, HF, rfl, by go_num, by omega, HI, rfl⟩
          case measure => simp [intOf]; omega
      · have hf := hfi.out
        rw [hp] at hf
        subst hf
        have HF : Hid (false = p.first) := hp.symm
        clear hp hfi
        have hsz := size_of hU
        simp only [List.length_cons, List.length_nil] at hsz
        have hsz2 : 4 ≤ S.size := by omega
        clear hsz
        have hx : S.extract 4 S.size = U := cut_tail hU
        have ht : S.extract 0 3 = ⟨#[114, 101, 102]⟩ := cut_head (V := ⟨#[114, 101, 102]⟩) (post := 61 :: L U) hU
        have hlS : S.size ≤ 1048576 := by rw [← hS]; simp; omega
        have H25 : Hid _ := fun w => index_at S 61 61 [114, 101, 102] (L U) w rfl hlS hU (by decide) 3 rfl
        clear hU
        by_cases hlt : i < K.size
        · have hq := neq_bar (h1 hlt)
          clear h1
          go_wp2_with fail
          refine (H25.out _).mono ?_
          rintro e w1 ⟨rfl, rfl⟩
          go_wp2_with (go_at_call 26; refine (rank2 _).mono ?_; rintro e w2 ⟨rfl, rfl⟩)
          go_roundw
          case rel => exact ⟨{ p with last := 2, hasRef := true, ref := U }, false, i + 1, i + 1, by go_num, rfl, HF, rfl, by go_num, by omega, HI, rfl⟩
          case measure => simp [intOf]; omega
        · clear h1
          go_wp2_with fail
          refine (H25.out _).mono ?_
          rintro e w1 ⟨rfl, rfl⟩
          go_wp2_with (go_at_call 26; refine (rank2 _).mono ?_; rintro e w2 ⟨rfl, rfl⟩)
          go_roundw
          case rel => exact ⟨{ p with last := 2, hasRef := true, ref := U }, false, i + 1, i + 1, by go_num, rfl, HF, rfl, by go_num, by omega, HI, rfl⟩
          case measure => simp [intOf]; omega
      · have hf := hfi.out
        rw [hp] at hf
        subst hf
        have HF : Hid (false = p.first) := hp.symm
        clear hp hfi
        have hsz := size_of hU
        simp only [List.length_cons, List.length_nil] at hsz
        have hsz2 : 3 ≤ S.size := by omega
        clear hsz
        have hx : S.extract 3 S.size = U := cut_tail hU
        have ht : S.extract 0 2 = ⟨#[98, 112]⟩ := cut_head (V := ⟨#[98, 112]⟩) (post := 61 :: L U) hU
        have hlS : S.size ≤ 1048576 := by rw [← hS]; simp; omega
        have H25 : Hid _ := fun w => index_at S 61 61 [98, 112] (L U) w rfl hlS hU (by decide) 2 rfl
        clear hU
        by_cases hlt : i < K.size
        · have hq := neq_bar (h1 hlt)
          clear h1
          go_wp2_with fail
          refine (H25.out _).mono ?_
          rintro e w1 ⟨rfl, rfl⟩
          go_wp2_with (go_at_call 26; refine (rank3 _).mono ?_; rintro e w2 ⟨rfl, rfl⟩)
          go_roundw
          case rel => exact ⟨{ p with last := 3, hasBP := true, bp := U }, false, i + 1, i + 1, by go_num, rfl, HF, rfl, by go_num, by omega, HI, rfl⟩
          case measure => simp [intOf]; omega
        · clear h1
          go_wp2_with fail
          refine (H25.out _).mono ?_
          rintro e w1 ⟨rfl, rfl⟩
          go_wp2_with (go_at_call 26; refine (rank3 _).mono ?_; rintro e w2 ⟨rfl, rfl⟩)
          go_roundw
          case rel => exact ⟨{ p with last := 3, hasBP := true, bp := U }, false, i + 1, i + 1, by go_num, rfl, HF, rfl, by go_num, by omega, HI, rfl⟩
          case measure => simp [intOf]; omega
      · have hf := hfi.out
        rw [hp] at hf
        subst hf
        have HF : Hid (false = p.first) := hp.symm
        clear hp hfi
        obtain ⟨V, hV⟩ : ∃ V : ByteArray, L V = L O ++ ([47] ++ L N) := ⟨⟨(L O ++ ([47] ++ L N)).toArray⟩, by simp [L]⟩
        rw [← hV] at hU
        have hsz := size_of hU
        simp only [List.length_cons, List.length_nil] at hsz
        have hsz2 : 9 ≤ S.size := by omega
        have hlS : S.size ≤ 1048576 := by rw [← hS]; simp; omega
        have hlV : V.size ≤ 1048576 := by omega
        clear hsz
        have hx : S.extract 9 S.size = V := cut_tail hU
        have ht : S.extract 0 8 = ⟨#[119, 111, 114, 107, 108, 111, 97, 100]⟩ := cut_head (V := ⟨#[119, 111, 114, 107, 108, 111, 97, 100]⟩) (post := 61 :: L V) hU
        have H25 : Hid _ := fun w => index_at S 61 61 [119, 111, 114, 107, 108, 111, 97, 100] (L V) w rfl hlS hU (by decide) 8 rfl
        have H25b : Hid _ := fun w => index_at V 47 47 (L O) (L N) w rfl hlV hV hno O.size (by rw [len_list])
        have hvo : V.extract 0 O.size = O := cut_head hV
        have hvn : V.extract (O.size + 1) V.size = N := by
          have := cut_tail (S := V) (pre := L O ++ [47]) (V := N) (by rw [hV]; simp)
          simpa using this
        have hvs : O.size + 1 ≤ V.size := by
          have := congrArg List.length hV
          simp at this
          omega
        clear hU hV hno
        by_cases hlt : i < K.size
        · have hq := neq_bar (h1 hlt)
          clear h1
          go_wp2_with fail
          refine (H25.out _).mono ?_
          rintro e w1 ⟨rfl, rfl⟩
          go_wp2_with (go_at_call 26; refine (rank4 _).mono ?_; rintro e w2 ⟨rfl, rfl⟩)
          refine (H25b.out _).mono ?_
          rintro e w3 ⟨rfl, rfl⟩
          go_wp2_with fail
          go_roundw
          case rel => exact ⟨{ p with last := 4, hasWL := true, kind := O, wname := N }, false, i + 1, i + 1, by go_num, rfl, HF, rfl, by go_num, by omega, HI, rfl⟩
          case measure => simp [intOf]; omega
        · clear h1
          go_wp2_with fail
          refine (H25.out _).mono ?_
          rintro e w1 ⟨rfl, rfl⟩
          go_wp2_with (go_at_call 26; refine (rank4 _).mono ?_; rintro e w2 ⟨rfl, rfl⟩)
          refine (H25b.out _).mono ?_
          rintro e w3 ⟨rfl, rfl⟩
          go_wp2_with fail
          go_roundw
          case rel => exact ⟨{ p with last := 4, hasWL := true, kind := O, wname := N }, false, i + 1, i + 1, by go_num, rfl, HF, rfl, by go_num, by omega, HI, rfl⟩
          case measure => simp [intOf]; omega
      · have hf := hfi.out
        rw [hp] at hf
        subst hf
        have HF : Hid (false = p.first) := hp.symm
        clear hp hfi
        have hsz := size_of hU
        simp only [List.length_cons, List.length_nil] at hsz
        have hsz2 : 3 ≤ S.size := by omega
        clear hsz
        have hx : S.extract 3 S.size = U := cut_tail hU
        have ht : S.extract 0 2 = ⟨#[110, 115]⟩ := cut_head (V := ⟨#[110, 115]⟩) (post := 61 :: L U) hU
        have hlS : S.size ≤ 1048576 := by rw [← hS]; simp; omega
        have H25 : Hid _ := fun w => index_at S 61 61 [110, 115] (L U) w rfl hlS hU (by decide) 2 rfl
        clear hU
        by_cases hlt : i < K.size
        · have hq := neq_bar (h1 hlt)
          clear h1
          go_wp2_with fail
          refine (H25.out _).mono ?_
          rintro e w1 ⟨rfl, rfl⟩
          go_wp2_with (go_at_call 26; refine (rank5 _).mono ?_; rintro e w2 ⟨rfl, rfl⟩)
          go_roundw
          case rel => exact ⟨{ p with last := 5, hasNS := true, ns := U }, false, i + 1, i + 1, by go_num, rfl, HF, rfl, by go_num, by omega, HI, rfl⟩
          case measure => simp [intOf]; omega
        · clear h1
          go_wp2_with fail
          refine (H25.out _).mono ?_
          rintro e w1 ⟨rfl, rfl⟩
          go_wp2_with (go_at_call 26; refine (rank5 _).mono ?_; rintro e w2 ⟨rfl, rfl⟩)
          go_roundw
          case rel => exact ⟨{ p with last := 5, hasNS := true, ns := U }, false, i + 1, i + 1, by go_num, rfl, HF, rfl, by go_num, by omega, HI, rfl⟩
          case measure => simp [intOf]; omega
    · subst h1
      go_wp2
      refine bodyPost_ret (v := .agg #[.bool true, .string p.user, .bool p.hasRepo, .string p.owner, .string p.name, .bool p.hasRef, .string p.ref, .bool p.hasBP, .string p.bp, .bool p.hasWL, .string p.kind, .string p.wname, .bool p.hasNS, .string p.ns]) (by simp [results, Try.results20, go_sem]) rfl ⟨rfl, ?_⟩
      exact finish
end Go.Proofs.Qxb6600041a.Read
