/-
  THE WALK of FnPlainNameAgreesWithAlphabet.
-/
import Derived.Test.Qxb6600169aPlain
namespace Go.Proofs.Qxb6600169a.Plain
open Go.ChangeShapes Go.WideShapes Go.ChangeAt Go.RowKit

theorem info5 : (Try.prog.info? 5).map (fun i => (i.zero, i.size, i.bytes)) = some (some (.int .u8 0), 1, 1) := by kernel_rfl
theorem size5 : (Try.prog.info? 5).map (·.size) = some 1 := by kernel_rfl

set_option maxRecDepth 100000 in
set_option maxHeartbeats 1000000 in
theorem law_nil (w : World) :
    Calls Try.prog 3 #[.slice none 0 0] w fun e w' => e = .returned (.bool true) ∧ w' = w := by
  go_enter Try.func3, Try.ntmps3
  go_wp2_with (go_at_call 11; refine (bytes_yes _ _ _ _ (by omega)).mono ?_; rintro e w' ⟨rfl, rfl⟩)
  go_loop [4, 5] (fun a i => a = .bool false ∧ i = .int .i64 0) (fun _ _ => 0)
  case atStart => exact ⟨rfl, rfl⟩
  case round =>
    obtain ⟨rfl, rfl⟩ := hrel
    go_wp2_with (go_at_call 13; refine (zz_none _).mono ?_; rintro e w' ⟨rfl, rfl⟩)
    go_ret
    exact ⟨rfl, rfl⟩

set_option maxHeartbeats 1000000 in
theorem law_big (a : Option Addr) (n cap : Nat) (w : World) (hm : n ≤ maxLen) (hn : 1048576 < n) :
    Calls Try.prog 3 #[.slice a n cap] w fun e w' => e = .returned (.bool true) ∧ w' = w := by
  go_enter Try.func3, Try.ntmps3
  go_wp2_with (go_at_call 11; refine (bytes_no _ _ _ _ hm hn).mono ?_; rintro e w' ⟨rfl, rfl⟩)
  go_ret
  exact ⟨rfl, rfl⟩

/-- The cells of a list of bytes. -/
def cellsOf (zs : List Int) : List Value := zs.map (Value.int .u8)
theorem cellsOf_length (zs : List Int) : (cellsOf zs).length = zs.length := by simp [cellsOf]
theorem cellsOf_get {zs : List Int} {j : Nat} {v : Value} (h : (cellsOf zs)[j]? = some v) : j < zs.length ∧ v = .int .u8 (zs.getD j 0) := by
  unfold cellsOf at h
  rw [List.getElem?_map] at h
  cases hj : zs[j]? with
  | none => simp [hj] at h
  | some x =>
    have hlt : j < zs.length := (List.getElem?_eq_some_iff.1 hj).1
    simp [hj] at h
    exact ⟨hlt, by simp [← h, hj]⟩
theorem cellsOf_one (zs : List Int) : ∀ v ∈ cellsOf zs, v.oneCell' = true := by
  intro v hv
  simp [cellsOf] at hv
  obtain ⟨_, _, rfl⟩ := hv
  rfl
theorem splice_all (M cs : List Value) (h : cs.length = M.length) : splice M 0 cs = cs := by
  unfold splice
  simp [h]

theorem law_no {zs : List Int} {n k : Nat} (hn : zs.length = n) (hk : k < n) (h : plainB (zs.getD k 0) = false) : (!nameB zs) = true := by
  rw [← name_no hn hk h]; rfl
theorem law_yes {zs : List Int} {n k : Nat} (hn : zs.length = n) (hk : ¬ k < n) (h : ∀ j, j < k → plainB (zs.getD j 0) = true) : (nameB zs == decide (0 < n)) = true := by
  by_cases h0 : 0 < n
  · rw [← name_yes hn h0 hk h]; simp [h0]
  · obtain rfl : n = 0 := by omega
    obtain rfl : zs = [] := List.eq_nil_of_length_eq_zero hn
    rfl
theorem made_row {w : World} {B g n : Nat} {xs : List Value} (h : w.ownsRow B 5 1 (.slice (some ⟨g, 0, none⟩) n n) n xs) : ∃ M : List Value, M.length = n ∧ w.heap[g]? = some (.cells M.toArray 5 (0, 0)) := by
  rcases h.2 with ⟨hv, _⟩ | ⟨g', cap, cur, hv, _, hg, _, _, hs, _⟩
  · cases hv
  · cases hv
    exact ⟨cur.toList, by simpa using hs, by simpa using hg⟩
theorem row_after {w : World} {g n : Nat} {zs : List Int} {M : List Value} (hz : zs.length = n) (hM : M.length = n) (hg : w.heap[g]? = some (.cells (splice M 0 (cellsOf zs)).toArray 5 (0, 0))) :
    ∀ i, i < n → w.cell? ⟨g, i, none⟩ = some (.int .u8 (zs.getD i 0)) := by
  intro i hi
  rw [splice_all M (cellsOf zs) (by rw [cellsOf_length]; omega)] at hg
  simp only [World.cell?, hg]
  have : i < zs.length := by omega
  simp [cellsOf, this]

set_option maxRecDepth 100000 in
set_option maxHeartbeats 1000000 in
theorem law_some (a : Addr) (n cap : Nat) (zs : List Int) (w : World) (hn : n ≤ 1048576) (hz : zs.length = n) (hcell : ∀ i, i < n → w.cell? (a.add i) = some (.int .u8 (zs.getD i 0))) (hwf : ∀ i, 0 ≤ zs.getD i 0 ∧ zs.getD i 0 ≤ 255) :
    Calls Try.prog 3 #[.slice (some a) n cap] w fun e w' => e = .returned (.bool true) ∧ Below w.heap.size w w' := by
  obtain ⟨i0, hi, hz0, hz1, hz2⟩ := info_parts info5
  have HZ : Hid _ := hz
  have HC : Hid _ := hcell
  have HW : Hid _ := hwf
  clear hz hcell hwf
  go_enter Try.func3, Try.ntmps3
  go_wp2_with (first | (go_at_call 11; refine (bytes_yes _ _ _ _ (by omega)).mono ?_; rintro e w' ⟨rfl, rfl⟩) | (at_make; refine wpList_make_full _ rfl _ _ 22 rfl w'.heap.size 5 i0 (.int .u8 0) 1 Try.underlying22 hi hz0 hz1 .i64 .i64 _ _ n rfl rfl rfl rfl ?b2 ?b3 ?b4 ?_))
  case b2 => rw [hz2]; omega
  case b3 => unfold maxLen; omega
  case b4 => omega
  intro w1 hown hgrow
  have hbel : Below w'.heap.size w' w1 := (Below.refl _ _).grown hgrow (Nat.le_refl _) (fun k h => by cases h)
  obtain ⟨M, hM, hg⟩ := made_row hown
  have HM : Hid _ := hM
  clear hM hown hgrow
  have HC1 : Hid (∀ j v, (cellsOf zs)[j]? = some v → w1.cell? (a.add j) = some v) := fun j v hv => by
    obtain ⟨hj, rfl⟩ := cellsOf_get hv
    exact cell_later hbel (HC.out j (by have := HZ.out; omega))
  have hlen : (cellsOf zs).length = n := by rw [cellsOf_length]; exact HZ.out
  have HL : Hid _ := hlen
  have HG : Hid _ := hg
  have HB : Hid _ := hbel
  clear hlen hg HC hbel
  go_wp2_with (refine wpList_copy_splice rfl _ _ 22 22 rfl 5 Try.underlying22 size5 _ _ _ _ _ _ rfl rfl w'.heap.size 0 M 5 HG.out (cellsOf zs) ?n ?pos ?fit (cellsOf_one zs) w'.heap.size w' HB.out (Nat.le_refl _) ?_)
  case n => rw [HL.out]; simp
  case pos => first | exact fun _ => HC1.out | exact fun _ => ⟨rfl, a, rfl, HC1.out⟩
  case fit => rw [HL.out, HM.out]; omega
  intro w2 hg2 hb2
  have hrow : Hid (∀ i, i < n → w2.cell? ⟨w'.heap.size, i, none⟩ = some (.int .u8 (zs.getD i 0))) := row_after HZ.out HM.out hg2.out
  have HB2 : Hid _ := hb2
  clear HG HB HC1 hg2 hb2
  have HZZ : Hid _ := fun _ : True => zz_all w'.heap.size n n zs w2 HZ.out hn hrow.out
  clear HL HM hi hz0 hz1 hz2
  go_wp2_with fail
  go_loop [4, 5] (fun s i => ∃ k : Nat, k ≤ n ∧ s = .bool (decide (0 < n)) ∧ i = .int .i64 k ∧ Hid (∀ j, j < k → plainB (zs.getD j 0) = true)) (fun _ i => n - (intOf i).toNat)
  case atStart => exact ⟨0, Nat.zero_le _, rfl, rfl, fun j hj => by omega⟩
  case round =>
    obtain ⟨k, hk, rfl, rfl, hr⟩ := hrel
    by_cases hlt : k < n
    · have hcell := hrow.out k hlt
      obtain ⟨h0, h255⟩ := HW.out k
      obtain ⟨c, hcc⟩ : ∃ c, c = zs.getD k 0 := ⟨_, rfl⟩
      rw [← hcc] at hcell h0 h255
      have HCC : Hid (c = zs.getD k 0) := hcc
      clear hcc
      cases hp : plainB c with
      | true =>
        have HP : Hid _ := hp
        go_wp2_with (go_at_call 12; refine (isPlain_any _ _ h0 h255).mono ?_; rintro e w3 ⟨rfl, rfl⟩)
        go_round
        case rel => exact ⟨k + 1, by omega, rfl, by go_num, fun j hj => by
          by_cases e : j = k
          · rw [e, ← HCC.out]; exact HP.out
          · exact hr.out j (by omega)⟩
        case measure => simp [intOf]; omega
      | false =>
        have HP : Hid (plainB (zs.getD k 0) = false) := by rw [← HCC.out]; exact hp
        go_wp2_with (go_at_call 12; refine (isPlain_any _ _ h0 h255).mono ?_; rintro e w3 ⟨rfl, rfl⟩)
        refine (HZZ.out trivial).mono ?_
        rintro e w3 ⟨rfl, rfl⟩
        go_wp2
        go_ret
        exact ⟨ret_bool (law_no HZ.out hlt HP.out), HB2.out⟩
    · go_wp2_with fail
      refine (HZZ.out trivial).mono ?_
      rintro e w3 ⟨rfl, rfl⟩
      go_wp2
      go_ret
      exact ⟨ret_bool (law_yes HZ.out hlt hr.out), HB2.out⟩

/-- What the walk is told of a slice of bytes that came in. -/
def IsRow8 (w : World) (a : Option Addr) (len cap : Nat) (zs : List Int) : Prop :=
  (a = none ∧ len = 0 ∧ cap = 0 ∧ zs = []) ∨
  ∃ x, a = some x ∧ len ≤ cap ∧ cap ≤ maxLen ∧ zs.length = cap ∧ (∀ i, i < zs.length → w.cell? (x.add i) = some (.int .u8 (zs.getD i 0))) ∧ ∀ n ∈ zs, (Lit.int .u8 n).wf = true

theorem take_getD (zs : List Int) (n i : Nat) : (zs.take n).getD i 0 = if i < n then zs.getD i 0 else 0 := by
  simp only [List.getD_eq_getElem?_getD, List.getElem?_take]
  split <;> simp
theorem wf_bounds {zs : List Int} (h : ∀ n ∈ zs, (Lit.int .u8 n).wf = true) (i : Nat) : 0 ≤ zs.getD i 0 ∧ zs.getD i 0 ≤ 255 := by
  have := range_u8 h i
  simpa [List.getD_eq_getElem?_getD] using this

/-- THE LAW's WALK. -/
theorem law (a0 : Option Addr) (len0 cap0 : Nat) (z0 : List Int) (w : World) (w0 : IsRow8 w a0 len0 cap0 z0) :
    Calls Try.prog 3 #[.slice a0 len0 cap0] w fun e w' => e = .returned (.bool true) ∧ Below w.heap.size w w' := by
  rcases w0 with ⟨rfl, rfl, rfl, rfl⟩ | ⟨x, rfl, hl, hm, hz, hc, hw⟩
  · refine (law_nil w).mono ?_
    rintro e w' ⟨rfl, rfl⟩
    exact ⟨rfl, Below.refl _ _⟩
  · by_cases hn : len0 ≤ 1048576
    · refine law_some x len0 cap0 (z0.take len0) w hn (by simp; omega) ?_ ?_
      · intro i hi
        rw [take_getD, if_pos hi]
        exact hc i (by omega)
      · intro i
        rw [take_getD]
        split
        · exact wf_bounds hw i
        · omega
    · refine (law_big (some x) len0 cap0 w (by omega) (by omega)).mono ?_
      rintro e w' ⟨rfl, rfl⟩
      exact ⟨rfl, Below.refl _ _⟩
end Go.Proofs.Qxb6600169a.Plain
