/-
  FnAppendStringReadsBack: the law's walk, whole.
-/
import Derived.Test.Qxb6601343aClone
namespace Go.Proofs.Qxb6601343a.App
open Go.ChangeShapes Go.WideShapes Go.ChangeAt Go.RowKit

/-- A row of n bytes as a copy is told of: nil, or the head of a block of its own. -/
def CRow (w : World) (a : Option Addr) (n : Nat) (zs : List Int) : Prop :=
  (a = none ∧ n = 0) ∨ ∃ g, a = some ⟨g, 0, none⟩ ∧ ∀ j, j < n → w.cell? ⟨g, j, none⟩ = some (.int .u8 (zs.getD j 0))
theorem CRow.later {w w' : World} {a : Option Addr} {n : Nat} {zs : List Int} (h : CRow w a n zs) (hb : Below w.heap.size w w') : CRow w' a n zs := by
  rcases h with h | ⟨g, h1, h2⟩
  · exact .inl h
  · exact .inr ⟨g, h1, fun j hj => cell_later hb (h2 j hj)⟩
theorem own_cells {w : World} {B g n cap : Nat} {zs : List Int} (hz : zs.length = n) (h : w.ownsRow B 5 1 (.slice (some ⟨g, 0, none⟩) n cap) n (cellsOf zs)) (j : Nat) (hj : j < n) : w.cell? ⟨g, j, none⟩ = some (.int .u8 (zs.getD j 0)) := by
  rw [h.cellAt j (by omega)]
  unfold cellsOf
  simp [hz, hj]
theorem clone_any (a : Option Addr) (n cap : Nat) (zs : List Int) (w : World) (hn : n ≤ 1048576) (hz : zs.length = n)
    (h : (a = none ∧ n = 0 ∧ cap = 0) ∨ ∃ x, a = some x ∧ ∀ i, i < n → w.cell? (x.add i) = some (.int .u8 (zs.getD i 0))) :
    Calls Try.prog 15 #[.slice a n cap] w fun e w' => ∃ a', e = .returned (.slice a' n n) ∧ CRow w' a' n zs ∧ Below w.heap.size w w' := by
  rcases h with ⟨rfl, rfl, rfl⟩ | ⟨x, rfl, hc⟩
  · refine (clone_nil w).mono ?_
    rintro e w' ⟨rfl, rfl⟩
    exact ⟨none, rfl, .inl ⟨rfl, rfl⟩, Below.refl _ _⟩
  · refine (clone_some x n cap zs w hn hz hc).mono ?_
    rintro e w' ⟨rfl, ho, hb⟩
    exact ⟨_, rfl, .inr ⟨_, rfl, fun j hj => own_cells hz ho j hj⟩, hb⟩
theorem CRow.arg {w : World} {a : Option Addr} {n : Nat} {zs : List Int} (h : CRow w a n zs) : (a = none ∧ n = 0 ∧ n = 0) ∨ ∃ x, a = some x ∧ ∀ i, i < n → w.cell? (x.add i) = some (.int .u8 (zs.getD i 0)) := by
  rcases h with ⟨h1, h2⟩ | ⟨g, h1, h2⟩
  · exact .inl ⟨h1, h2, h2⟩
  · refine .inr ⟨_, h1, fun i hi => ?_⟩
    have e : Addr.add ⟨g, 0, none⟩ i = ⟨g, i, none⟩ := by unfold Addr.add; split <;> simp_all
    rw [e]
    exact h2 i hi
theorem app_c (a : Option Addr) (n : Nat) (zs : List Int) (s : ByteArray) (w : World) (hn : n ≤ 1048576) (hz : zs.length = n) (hs : s.size ≤ 1048576) (h : CRow w a n zs) :
    Calls Try.prog 16 #[.slice a n n, .string s] w fun e w' => ∃ v', e = .returned v' ∧ w'.ownsRow w.heap.size 5 1 v' (zs ++ quote s.data.toList).length (cellsOf (zs ++ quote s.data.toList)) ∧ Below w.heap.size w w' := by
  refine zz_app a n zs s w ?_ hz hn hs ?_
  · intro h1
    rcases h with ⟨_, h2⟩ | ⟨g, h2, _⟩
    · exact h2
    · rw [h1] at h2; cases h2
  · intro b hb j hj
    rcases h.arg with ⟨h1, _⟩ | ⟨x, h1, h2⟩
    · rw [h1] at hb; cases hb
    · rw [h1] at hb; cases hb; exact h2 j hj
theorem eq_c (g : Nat) (b : Option Addr) (n c d : Nat) (zs : List Int) (w : World) (hn : n ≤ 16777216) (ha : ∀ j, j < n → w.cell? ⟨g, j, none⟩ = some (.int .u8 (zs.getD j 0))) (hb : CRow w b n zs) :
    Calls Try.prog 17 #[.slice (some ⟨g, 0, none⟩) n c, .slice b n d] w fun e w' => e = .returned (.bool true) ∧ ∃ q, w' = w.drewN q := by
  rcases hb with ⟨rfl, rfl⟩ | ⟨h, rfl, hb⟩
  · refine (eq_empty _ _ _ _ _).mono ?_
    rintro e w' ⟨rfl, rfl⟩
    exact ⟨rfl, 0, rfl⟩
  · exact eq_true g 0 h 0 n c d zs w hn (fun j hj => by rw [Nat.zero_add]; exact ha j hj) (fun j hj => by rw [Nat.zero_add]; exact hb j hj)
theorem getD_app_l (a b : List Int) (j : Nat) (h : j < a.length) : (a ++ b).getD j 0 = a.getD j 0 := by
  simp [List.getD_eq_getElem?_getD, List.getElem?_append_left h]
theorem getD_app_r (a b : List Int) (j : Nat) : (a ++ b).getD (a.length + j) 0 = b.getD j 0 := by
  rw [List.getD_eq_getElem?_getD, List.getD_eq_getElem?_getD, List.getElem?_append_right (Nat.le_add_right _ _), Nat.add_sub_cancel_left]
theorem nums_getD (l : List UInt8) (k : Nat) (h : k < l.length) : (nums l).getD k 0 = ((l[k]'h).toNat : Int) := by
  simp [nums, List.getD_eq_getElem?_getD, h]
/-- What the append hands back, as the walk reads it. -/
theorem own_cap {w : World} {B : Nat} {v : Value} {zs : List Int} (h : w.ownsRow B 5 1 v zs.length (cellsOf zs)) (h0 : 0 < zs.length) :
    ∃ g cap, v = .slice (some ⟨g, 0, none⟩) zs.length cap ∧ zs.length ≤ cap ∧ cap ≤ maxLen ∧ ∀ j, j < zs.length → w.cell? ⟨g, j, none⟩ = some (.int .u8 (zs.getD j 0)) := by
  rcases h.2 with ⟨_, hz⟩ | ⟨g, cap, cur, hv, hB, hg, hc, hm, hr⟩
  · omega
  · subst hv
    exact ⟨g, cap, rfl, hc, hm, fun j hj => own_cells rfl h j hj⟩
/-- What the decoder hands back, as the last loop reads it. -/
theorem own_dec {w : World} {B n : Nat} {v : Value} {zs : List Int} (hz : zs.length = n) (h : w.ownsRow B 5 1 v n (cellsOf zs)) :
    ∃ a cap, v = .slice a n cap ∧ ((a = none ∧ n = 0) ∨ ∃ g, a = some ⟨g, 0, none⟩ ∧ ∀ j, j < n → w.cell? ⟨g, j, none⟩ = some (.int .u8 (zs.getD j 0))) := by
  rcases h.2 with ⟨hv, h0⟩ | ⟨g, cap, cur, hv, hB, hg, hc, hm, hr⟩
  · subst hv; subst h0; exact ⟨_, _, rfl, .inl ⟨rfl, rfl⟩⟩
  · subst hv
    exact ⟨_, _, rfl, .inr ⟨g, rfl, fun j hj => own_cells hz h j hj⟩⟩

set_option maxHeartbeats 400000 in
theorem bytes14_yes (a : Option Addr) (n c : Nat) (s : ByteArray) (w : World) (hn : n ≤ 524288) (hs : s.size ≤ 524288) :
    Calls Try.prog 14 #[.slice a n c, .string s] w fun e w' => e = .returned (.bool true) ∧ w' = w := by
  go_enter Try.func14, Try.ntmps14
  go_wp2
  go_ret
  exact ⟨rfl, rfl⟩
set_option maxHeartbeats 400000 in
theorem bytes14_any (a : Option Addr) (n c : Nat) (s : ByteArray) (w : World) (hn : n ≤ maxLen) (hs : s.size ≤ maxLen) :
    Calls Try.prog 14 #[.slice a n c, .string s] w fun e w' => ∃ v : Bool, e = .returned (.bool v) ∧ w' = w := by
  unfold maxLen at hn hs
  go_enter Try.func14, Try.ntmps14
  go_wp2
  all_goals (go_ret; exact ⟨_, rfl, rfl⟩)
set_option maxHeartbeats 1000000 in
theorem back_long (a : Option Addr) (n c : Nat) (s : ByteArray) (w : World) (hn : n ≤ maxLen) (hs : s.size ≤ maxLen) (h : ¬ (n ≤ 524288 ∧ s.size ≤ 524288)) :
    Calls Try.prog 6 #[.slice a n c, .string s] w fun e w' => e = .returned (.bool true) ∧ w' = w := by
  have HZ : Hid _ := fun w => bytes14_any a n c s w hn hs
  unfold maxLen at hn hs
  by_cases h1 : n ≤ 524288
  · have h2 : 524288 < s.size := by omega
    clear h
    go_enter Try.func6, Try.ntmps6
    go_wp2_with (go_at_call 14; refine (HZ.out _).mono ?_; rintro e w' ⟨v, rfl, rfl⟩; clear HZ; cases v)
    all_goals (go_ret; exact ⟨rfl, rfl⟩)
  · have h2 : 524288 < n := by omega
    clear h h1
    go_enter Try.func6, Try.ntmps6
    go_wp2_with (go_at_call 14; refine (HZ.out _).mono ?_; rintro e w' ⟨v, rfl, rfl⟩; clear HZ; cases v)
    all_goals (go_ret; exact ⟨rfl, rfl⟩)

set_option maxRecDepth 100000 in
set_option maxHeartbeats 4000000 in
theorem back_short (a0 : Option Addr) (n c0 : Nat) (zs : List Int) (s : ByteArray) (w : World) (hn : n ≤ 524288) (hs : s.size ≤ 524288) (hz : zs.length = n)
    (ha : (a0 = none ∧ n = 0 ∧ c0 = 0) ∨ ∃ x, a0 = some x ∧ ∀ i, i < n → w.cell? (x.add i) = some (.int .u8 (zs.getD i 0))) :
    Calls Try.prog 6 #[.slice a0 n c0, .string s] w fun e w' => e = .returned (.bool true) ∧ Below w.heap.size w w' := by
  have HB : Hid _ := fun w => bytes14_yes a0 n c0 s w hn hs
  have HZ : Hid _ := hz
  have HA : Hid _ := ha
  clear hz ha
  go_enter Try.func6, Try.ntmps6
  go_wp2_with (go_at_call 14; refine (HB.out _).mono ?_; rintro e w' ⟨rfl, rfl⟩; clear HB)
  refine (clone_any a0 n c0 zs _ (by omega) HZ.out HA.out).mono ?_
  rintro e w1 ⟨a1, rfl, hc1, hb1⟩
  have HC1 : Hid (CRow w1 a1 n zs) := hc1
  have HB1 : Hid _ := fun _ : True => hb1
  have z1 := hb1.size
  clear hc1 hb1 HA
  go_wp2_with fail
  refine (clone_any a1 n n zs _ (by omega) HZ.out (CRow.arg HC1.out)).mono ?_
  rintro e w2 ⟨a2, rfl, hc2, hb2⟩
  have HC2 : Hid (CRow w2 a2 n zs) := hc2
  have HC1' : Hid (CRow w2 a1 n zs) := CRow.later HC1.out hb2
  have z2 := hb2.size
  have HB2 : Hid (Below w'.heap.size w' w2) := (HB1.out trivial).trans (hb2.mono z1)
  clear hc2 hb2 HC1 HB1
  go_wp2_with fail
  refine (app_c a1 n zs s _ (by omega) HZ.out (by omega) HC1'.out).mono ?_
  rintro e w3 ⟨v3, rfl, ho3, hb3⟩
  have z3 := hb3.size
  have HB3 : Hid (Below w'.heap.size w' w3) := HB2.out.trans (hb3.mono (by omega))
  have HC2' : Hid (CRow w3 a2 n zs) := CRow.later HC2.out hb3
  obtain ⟨qs, hqs⟩ : ∃ qs, qs = quote s.data.toList := ⟨_, rfl⟩
  have hq := quote_len s.data.toList
  obtain ⟨m, hm⟩ : ∃ m, m = qs.length := ⟨_, rfl⟩
  rw [← hqs] at ho3 hq
  have hlen : (zs ++ qs).length = n + m := by rw [List.length_append, HZ.out, hm]
  obtain ⟨g, cap, hv, hlc, hcm, hcell⟩ := own_cap ho3 (by omega)
  rw [hlen] at hv hlc hcell
  subst hv
  have hm2 : 2 ≤ m := by omega
  have hmb : m ≤ 3145730 := by simp at hq; omega
  have HCP : Hid (∀ j, j < n → w3.cell? ⟨g, j, none⟩ = some (.int .u8 (zs.getD j 0))) := fun j hj => by
    rw [hcell j (by omega), getD_app_l zs qs j (by have := HZ.out; omega)]
  have HCQ : Hid (∀ j, j < m → w3.cell? ⟨g, n + j, none⟩ = some (.int .u8 (qs.getD j 0))) := fun j hj => by
    have := getD_app_r zs qs j
    rw [HZ.out] at this
    rw [hcell (n + j) (by omega), this]
  have HM : Hid (m = (quote s.data.toList).length) := by unfold Hid; rw [hm, hqs]
  have HQS : Hid _ := hqs
  have hne : ¬ cap = n := by omega
  unfold maxLen at hcm
  clear ho3 hb3 hq hlen hcell hm hqs HC2 HC1' HB2
  go_wp2_with fail
  refine (eq_c g a2 n cap n zs w3 (by omega) HCP.out HC2'.out).mono ?_
  rintro e w4 ⟨rfl, q, rfl⟩
  have HCQ' : Hid (∀ j, j < m → (w3.drewN q).cell? ⟨g, n + j, none⟩ = some (.int .u8 ((quote s.data.toList).getD j 0))) := fun j hj => by
    have := HCQ.out j hj
    rw [HQS.out] at this
    exact this
  have HB4 : Hid (Below w'.heap.size w' (w3.drewN q)) := below_drewN HB3.out q
  clear HCP HCQ HC2' HQS HB3
  go_wp2_with fail
  refine (dec_any g n m (cap - n) s.data.toList _ HM.out (by simpa using hs) HCQ'.out).mono ?_
  rintro e w5 ⟨v5, rfl, ho5, hb5⟩
  have hsl : s.data.toList.length = s.size := by simp
  rw [hsl] at ho5
  have z5 := hb5.size
  have HB5 : Hid (Below w'.heap.size w' w5) := HB4.out.trans (hb5.mono HB4.out.size)
  obtain ⟨a5, c5, rfl, h5⟩ := own_dec ((nums_len _).trans hsl) ho5
  clear ho5 hb5 HB4 HM HCQ' HZ hsl z5
  rcases h5 with ⟨rfl, h0⟩ | ⟨g5, rfl, h5⟩
  · go_wp2_with fail
    go_loopw [9] (fun s9 wr => ∃ q : Nat, s9 = .int .i64 0 ∧ wr = w5.drewN q) (fun _ _ => 0)
    case atStart => exact ⟨0, rfl, rfl⟩
    case round =>
      obtain ⟨q, rfl, rfl⟩ := hrel
      have hq0 : ¬ (0 : Int) < (s.size : Int) := by omega
      go_wp2
      go_ret
      exact ⟨rfl, below_drewN HB5.out q⟩
  · have HC5 : Hid _ := h5
    clear h5
    go_wp2_with fail
    go_loopw [9] (fun s9 wr => ∃ k q : Nat, k ≤ s.size ∧ s9 = .int .i64 k ∧ wr = w5.drewN q) (fun s9 _ => s.size - (intOf s9).toNat)
    case atStart => exact ⟨0, 0, Nat.zero_le _, rfl, rfl⟩
    case round =>
      obtain ⟨k, q, hk, rfl, rfl⟩ := hrel
      by_cases hlt : k < s.size
      · have hl : (k : Int) < (s.size : Int) := by omega
        have c1 : w5.cell? ⟨g5, k, none⟩ = some (.int .u8 (s[k].toNat : Int)) := by
          have := HC5.out k hlt
          rw [nums_getD _ k (by simpa using hlt)] at this
          exact this
        go_wp2
        go_quiet (fail)
        go_wp2
        go_roundw
        case rel => exact ⟨k + 1, q + nq, by omega, by go_num, rfl⟩
        case measure => simp [intOf]; omega
      · go_wp2
        go_ret
        exact ⟨rfl, below_drewN HB5.out q⟩

/-- A slice of bytes that came in: the frame's own word, at bytes. -/
def IsRow8 (w : World) (a : Option Addr) (len cap : Nat) (zs : List Int) : Prop :=
  (a = none ∧ len = 0 ∧ cap = 0 ∧ zs = []) ∨
  ∃ x, a = some x ∧ len ≤ cap ∧ cap ≤ maxLen ∧ zs.length = cap ∧ (∀ i, i < zs.length → w.cell? (x.add i) = some (.int .u8 (zs.getD i 0))) ∧ ∀ n ∈ zs, (Lit.int .u8 n).wf = true
theorem take_getD (zs : List Int) (n i : Nat) : (zs.take n).getD i 0 = if i < n then zs.getD i 0 else 0 := by
  simp only [List.getD_eq_getElem?_getD, List.getElem?_take]
  split <;> simp
/-- THE LAW's WALK. -/
theorem back_law (a0 : Option Addr) (len0 cap0 : Nat) (z0 : List Int) (s : ByteArray) (w : World) (w0 : IsRow8 w a0 len0 cap0 z0) (w1 : s.size ≤ maxLen) :
    Calls Try.prog 6 #[.slice a0 len0 cap0, .string s] w fun e w' => e = .returned (.bool true) ∧ Below w.heap.size w w' := by
  by_cases h : len0 ≤ 524288 ∧ s.size ≤ 524288
  · rcases w0 with ⟨rfl, rfl, rfl, rfl⟩ | ⟨x, rfl, hl, hm, hz, hc, hw⟩
    · exact back_short none 0 0 [] s w h.1 h.2 rfl (.inl ⟨rfl, rfl, rfl⟩)
    · refine back_short (some x) len0 cap0 (z0.take len0) s w h.1 h.2 (by simp; omega) (.inr ⟨x, rfl, fun i hi => ?_⟩)
      rw [take_getD, if_pos hi]
      exact hc i (by omega)
  · have hn : len0 ≤ maxLen := by
      rcases w0 with ⟨_, h1, _⟩ | ⟨x, _, hl, hm, _⟩
      · omega
      · omega
    refine (back_long a0 len0 cap0 s w hn w1 h).mono ?_
    rintro e w' ⟨rfl, rfl⟩
    exact ⟨rfl, Below.refl _ _⟩
end Go.Proofs.Qxb6601343a.App
