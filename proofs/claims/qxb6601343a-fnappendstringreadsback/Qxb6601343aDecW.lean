/-
  THE WALK: zqb1DecodeQuoted at a quoted text.
-/
import Derived.Test.Qxb6601343aDec
namespace Go.Proofs.Qxb6601343a.App
open Go.ChangeShapes Go.WideShapes Go.ChangeAt Go.RowKit

def DMid (B : Nat) (w : World) (l : List UInt8) (k : Nat) (v : Value) (wr : World) : Prop :=
  ∃ zs, zs = nums (l.take k) ∧ wr.ownsRow B 5 1 v zs.length (cellsOf zs) ∧ Below B w wr
theorem nums_len (l : List UInt8) : (nums l).length = l.length := by simp [nums]
theorem DMid.step {B : Nat} {w : World} {l : List UInt8} {k : Nat} {v' : Value} {w' : World} {zs : List Int} (hk : k < l.length) (hz : zs = nums (l.take k)) (x : Int) (hx : ((l[k]'hk).toNat : Int) = x)
    (ho : w'.ownsRow B 5 1 v' (zs.length + 1) (cellsOf zs ++ cellsOf [x])) (hb : Below B w w') : DMid B w l (k + 1) v' w' := by
  refine ⟨zs ++ [x], ?_, ?_, hb⟩
  · rw [nums_succ l k hk, hz, hx]
  · rw [cellsOf_append, List.length_append]; exact ho
theorem ret_t {v : Value} {a b : Bool} (h : a = b) : Ending.returned (.tuple #[v, .bool a]) = .returned (.tuple #[v, .bool b]) := by rw [h]

set_option maxRecDepth 100000 in
set_option maxHeartbeats 8000000 in
theorem dec_any (g off m cap : Nat) (l : List UInt8) (w : World) (hm : m = (quote l).length) (hs : l.length ≤ 524288)
    (hc : ∀ j, j < m → w.cell? ⟨g, off + j, none⟩ = some (.int .u8 ((quote l).getD j 0))) :
    Calls Try.prog 18 #[.slice (some ⟨g, off, none⟩) m cap] w fun e w' => ∃ v, e = .returned (.tuple #[v, .bool true]) ∧ w'.ownsRow w.heap.size 5 1 v l.length (cellsOf (nums l)) ∧ Below w.heap.size w w' := by
  obtain ⟨i0, hi, hz0, hz1, hz2⟩ := info_parts info5
  have hq := quote_len l
  have hm2 : 2 ≤ m := by omega
  have hmb : m ≤ 3145730 := by omega
  have c0 : w.cell? ⟨g, off, none⟩ = some (.int .u8 34) := by have := hc 0 (by omega); simpa [quote] using this
  have HM : Hid _ := hm
  have HC : Hid _ := hc
  clear hm hc hq
  go_enter Try.func18, Try.ntmps18
  go_wp2_with (at_make; refine wpList_make_own _ rfl _ _ 23 rfl w.heap.size 5 i0 (.int .u8 0) 1 Try.underlying23 hi hz0 hz1 .i64 .i64 _ m rfl rfl rfl ?b2 ?b3 ?b4 ?_)
  case b2 => rw [hz2]; omega
  case b3 => unfold maxLen; omega
  case b4 => omega
  intro w1 hown hgrow
  have H1 : Hid (DMid w.heap.size w l 0 (.slice (some ⟨w.heap.size, 0, none⟩) 0 m) w1) := ⟨[], rfl, hown, (Below.refl _ _).grown hgrow (Nat.le_refl _) (fun k h => by cases h)⟩
  clear hown hgrow c0
  go_wp2_with fail
  go_loopw [4, 5] (fun s4 s5 wr => ∃ (k i : Nat) (v : Value), k ≤ l.length ∧ i ≤ m ∧ s4 = v ∧ s5 = .int .i64 i ∧ Hid (i = 1 + (body (l.take k)).length) ∧ Hid (DMid w.heap.size w l k v wr)) (fun _ s5 _ => m - (intOf s5).toNat)
  case atStart => exact ⟨0, 1, _, Nat.zero_le _, by omega, rfl, rfl, rfl, H1⟩
  case round =>
    obtain ⟨k, i, v, hk, him, rfl, rfl, hie, hr⟩ := hrel
    clear H1
    by_cases hlt : k < l.length
    · obtain ⟨zs, hzs, hown, hbel⟩ := hr.out
      clear hr
      have hzl : zs.length ≤ 524288 := by rw [hzs, nums_len]; simp; omega
      have hsz := hbel.size
      have hroom := quote_room l k hlt
      have HCE : Hid (∀ j, j < (esc ((l[k]'hlt).toNat : Int)).length → wr.cell? ⟨g, off + (i + j), none⟩ = some (.int .u8 ((esc ((l[k]'hlt).toNat : Int)).getD j 0))) := fun j hj => by
        have h1 := HC.out (i + j) (by rw [HM.out, hie.out]; omega)
        rw [hie.out, quote_at l k j hlt hj] at h1
        rw [hie.out]
        exact cell_later hbel h1
      have HNX : Hid (i + (esc ((l[k]'hlt).toNat : Int)).length = 1 + (body (l.take (k + 1))).length) := by unfold Hid; rw [body_take_succ l k hlt, hie.out]; omega
      have hrm : i + (esc ((l[k]'hlt).toNat : Int)).length < m := by rw [HM.out, hie.out]; exact hroom
      have HZS : Hid _ := hzs
      have HOW : Hid _ := fun _ : True => hown
      have HBE : Hid _ := fun _ : True => hbel
      clear hzs hown hbel hroom hie HC
      have hb1 : (l[k]'hlt).toNat < 256 := (l[k]'hlt).toNat_lt
      obtain ⟨c, hcc⟩ : ∃ c : Int, ((l[k]'hlt).toNat : Int) = c := ⟨_, rfl⟩
      rw [hcc] at HCE HNX hrm
      have hc0 : 0 ≤ c := by omega
      have hc1 : c ≤ 255 := by omega
      have HCC : Hid _ := hcc
      clear hcc hb1
      have hcls : c = 34 ∨ c = 92 ∨ c = 8 ∨ c = 12 ∨ c = 10 ∨ c = 13 ∨ c = 9 ∨ (32 ≤ c ∧ c ≠ 34 ∧ c ≠ 92) ∨ (c < 32 ∧ c ≠ 8 ∧ c ≠ 12 ∧ c ≠ 10 ∧ c ≠ 13 ∧ c ≠ 9) := by omega
      rcases hcls with rfl | rfl | rfl | rfl | rfl | rfl | rfl | h | h
      · have d0 : wr.cell? ⟨g, off + i, none⟩ = some (.int .u8 92) := HCE.out 0 (by decide)
        have d1 : wr.cell? ⟨g, off + (i + 1), none⟩ = some (.int .u8 34) := HCE.out 1 (by decide)
        have HN2 : Hid (i + 2 = 1 + (body (l.take (k + 1))).length) := HNX.out
        have hr2 : i + 2 < m := hrm
        clear HCE HNX hrm
        go_wp2_with (first | (go_at_call 24; refine (unescape_any 34 34 _ (by unfold short; omega)).mono ?_; rintro e wr ⟨rfl, rfl⟩) | (at_builtin; refine wpList_append_own _ rfl _ _ 23 rfl w.heap.size 5 i0 (.int .u8 0) 1 1 Try.underlying23 hi hz0 hz1 hz2 rfl (by decide) _ _ (cellsOf zs) rfl ((HOW.out trivial).alloc _) ⟨wr.heap.size, 0, none⟩ 1 1 (cellsOf [34]) rfl rfl ?c1 ?c2 ?c3 ?c4 ?c5 ?_))
        case c1 => exact laid_cells wr [34] _ rfl 5
        case c2 => exact cellsOf_one [34]
        case c3 => unfold maxLen; omega
        case c4 => omega
        case c5 => simp; omega
        intro v2 w2 hown2 hgrow2 _
        have HP : Hid (DMid w.heap.size w l (k + 1) v2 w2) := DMid.step hlt HZS.out 34 HCC.out hown2 (((HBE.out trivial).alloc hsz _).grown hgrow2 (by simp; omega) (fun j hj => ((HOW.out trivial).lt j hj).1))
        clear hown2 hgrow2
        go_wp2
        go_roundw
        case rel => exact ⟨k + 1, i + 2, v2, by omega, by omega, rfl, by go_num, HN2, HP⟩
        case measure => simp [intOf]; omega
      · have d0 : wr.cell? ⟨g, off + i, none⟩ = some (.int .u8 92) := HCE.out 0 (by decide)
        have d1 : wr.cell? ⟨g, off + (i + 1), none⟩ = some (.int .u8 92) := HCE.out 1 (by decide)
        have HN2 : Hid (i + 2 = 1 + (body (l.take (k + 1))).length) := HNX.out
        have hr2 : i + 2 < m := hrm
        clear HCE HNX hrm
        go_wp2_with (first | (go_at_call 24; refine (unescape_any 92 92 _ (by unfold short; omega)).mono ?_; rintro e wr ⟨rfl, rfl⟩) | (at_builtin; refine wpList_append_own _ rfl _ _ 23 rfl w.heap.size 5 i0 (.int .u8 0) 1 1 Try.underlying23 hi hz0 hz1 hz2 rfl (by decide) _ _ (cellsOf zs) rfl ((HOW.out trivial).alloc _) ⟨wr.heap.size, 0, none⟩ 1 1 (cellsOf [92]) rfl rfl ?c1 ?c2 ?c3 ?c4 ?c5 ?_))
        case c1 => exact laid_cells wr [92] _ rfl 5
        case c2 => exact cellsOf_one [92]
        case c3 => unfold maxLen; omega
        case c4 => omega
        case c5 => simp; omega
        intro v2 w2 hown2 hgrow2 _
        have HP : Hid (DMid w.heap.size w l (k + 1) v2 w2) := DMid.step hlt HZS.out 92 HCC.out hown2 (((HBE.out trivial).alloc hsz _).grown hgrow2 (by simp; omega) (fun j hj => ((HOW.out trivial).lt j hj).1))
        clear hown2 hgrow2
        go_wp2
        go_roundw
        case rel => exact ⟨k + 1, i + 2, v2, by omega, by omega, rfl, by go_num, HN2, HP⟩
        case measure => simp [intOf]; omega
      · have d0 : wr.cell? ⟨g, off + i, none⟩ = some (.int .u8 92) := HCE.out 0 (by decide)
        have d1 : wr.cell? ⟨g, off + (i + 1), none⟩ = some (.int .u8 98) := HCE.out 1 (by decide)
        have HN2 : Hid (i + 2 = 1 + (body (l.take (k + 1))).length) := HNX.out
        have hr2 : i + 2 < m := hrm
        clear HCE HNX hrm
        go_wp2_with (first | (go_at_call 24; refine (unescape_any 98 8 _ (by unfold short; omega)).mono ?_; rintro e wr ⟨rfl, rfl⟩) | (at_builtin; refine wpList_append_own _ rfl _ _ 23 rfl w.heap.size 5 i0 (.int .u8 0) 1 1 Try.underlying23 hi hz0 hz1 hz2 rfl (by decide) _ _ (cellsOf zs) rfl ((HOW.out trivial).alloc _) ⟨wr.heap.size, 0, none⟩ 1 1 (cellsOf [8]) rfl rfl ?c1 ?c2 ?c3 ?c4 ?c5 ?_))
        case c1 => exact laid_cells wr [8] _ rfl 5
        case c2 => exact cellsOf_one [8]
        case c3 => unfold maxLen; omega
        case c4 => omega
        case c5 => simp; omega
        intro v2 w2 hown2 hgrow2 _
        have HP : Hid (DMid w.heap.size w l (k + 1) v2 w2) := DMid.step hlt HZS.out 8 HCC.out hown2 (((HBE.out trivial).alloc hsz _).grown hgrow2 (by simp; omega) (fun j hj => ((HOW.out trivial).lt j hj).1))
        clear hown2 hgrow2
        go_wp2
        go_roundw
        case rel => exact ⟨k + 1, i + 2, v2, by omega, by omega, rfl, by go_num, HN2, HP⟩
        case measure => simp [intOf]; omega
      · have d0 : wr.cell? ⟨g, off + i, none⟩ = some (.int .u8 92) := HCE.out 0 (by decide)
        have d1 : wr.cell? ⟨g, off + (i + 1), none⟩ = some (.int .u8 102) := HCE.out 1 (by decide)
        have HN2 : Hid (i + 2 = 1 + (body (l.take (k + 1))).length) := HNX.out
        have hr2 : i + 2 < m := hrm
        clear HCE HNX hrm
        go_wp2_with (first | (go_at_call 24; refine (unescape_any 102 12 _ (by unfold short; omega)).mono ?_; rintro e wr ⟨rfl, rfl⟩) | (at_builtin; refine wpList_append_own _ rfl _ _ 23 rfl w.heap.size 5 i0 (.int .u8 0) 1 1 Try.underlying23 hi hz0 hz1 hz2 rfl (by decide) _ _ (cellsOf zs) rfl ((HOW.out trivial).alloc _) ⟨wr.heap.size, 0, none⟩ 1 1 (cellsOf [12]) rfl rfl ?c1 ?c2 ?c3 ?c4 ?c5 ?_))
        case c1 => exact laid_cells wr [12] _ rfl 5
        case c2 => exact cellsOf_one [12]
        case c3 => unfold maxLen; omega
        case c4 => omega
        case c5 => simp; omega
        intro v2 w2 hown2 hgrow2 _
        have HP : Hid (DMid w.heap.size w l (k + 1) v2 w2) := DMid.step hlt HZS.out 12 HCC.out hown2 (((HBE.out trivial).alloc hsz _).grown hgrow2 (by simp; omega) (fun j hj => ((HOW.out trivial).lt j hj).1))
        clear hown2 hgrow2
        go_wp2
        go_roundw
        case rel => exact ⟨k + 1, i + 2, v2, by omega, by omega, rfl, by go_num, HN2, HP⟩
        case measure => simp [intOf]; omega
      · have d0 : wr.cell? ⟨g, off + i, none⟩ = some (.int .u8 92) := HCE.out 0 (by decide)
        have d1 : wr.cell? ⟨g, off + (i + 1), none⟩ = some (.int .u8 110) := HCE.out 1 (by decide)
        have HN2 : Hid (i + 2 = 1 + (body (l.take (k + 1))).length) := HNX.out
        have hr2 : i + 2 < m := hrm
        clear HCE HNX hrm
        go_wp2_with (first | (go_at_call 24; refine (unescape_any 110 10 _ (by unfold short; omega)).mono ?_; rintro e wr ⟨rfl, rfl⟩) | (at_builtin; refine wpList_append_own _ rfl _ _ 23 rfl w.heap.size 5 i0 (.int .u8 0) 1 1 Try.underlying23 hi hz0 hz1 hz2 rfl (by decide) _ _ (cellsOf zs) rfl ((HOW.out trivial).alloc _) ⟨wr.heap.size, 0, none⟩ 1 1 (cellsOf [10]) rfl rfl ?c1 ?c2 ?c3 ?c4 ?c5 ?_))
        case c1 => exact laid_cells wr [10] _ rfl 5
        case c2 => exact cellsOf_one [10]
        case c3 => unfold maxLen; omega
        case c4 => omega
        case c5 => simp; omega
        intro v2 w2 hown2 hgrow2 _
        have HP : Hid (DMid w.heap.size w l (k + 1) v2 w2) := DMid.step hlt HZS.out 10 HCC.out hown2 (((HBE.out trivial).alloc hsz _).grown hgrow2 (by simp; omega) (fun j hj => ((HOW.out trivial).lt j hj).1))
        clear hown2 hgrow2
        go_wp2
        go_roundw
        case rel => exact ⟨k + 1, i + 2, v2, by omega, by omega, rfl, by go_num, HN2, HP⟩
        case measure => simp [intOf]; omega
      · have d0 : wr.cell? ⟨g, off + i, none⟩ = some (.int .u8 92) := HCE.out 0 (by decide)
        have d1 : wr.cell? ⟨g, off + (i + 1), none⟩ = some (.int .u8 114) := HCE.out 1 (by decide)
        have HN2 : Hid (i + 2 = 1 + (body (l.take (k + 1))).length) := HNX.out
        have hr2 : i + 2 < m := hrm
        clear HCE HNX hrm
        go_wp2_with (first | (go_at_call 24; refine (unescape_any 114 13 _ (by unfold short; omega)).mono ?_; rintro e wr ⟨rfl, rfl⟩) | (at_builtin; refine wpList_append_own _ rfl _ _ 23 rfl w.heap.size 5 i0 (.int .u8 0) 1 1 Try.underlying23 hi hz0 hz1 hz2 rfl (by decide) _ _ (cellsOf zs) rfl ((HOW.out trivial).alloc _) ⟨wr.heap.size, 0, none⟩ 1 1 (cellsOf [13]) rfl rfl ?c1 ?c2 ?c3 ?c4 ?c5 ?_))
        case c1 => exact laid_cells wr [13] _ rfl 5
        case c2 => exact cellsOf_one [13]
        case c3 => unfold maxLen; omega
        case c4 => omega
        case c5 => simp; omega
        intro v2 w2 hown2 hgrow2 _
        have HP : Hid (DMid w.heap.size w l (k + 1) v2 w2) := DMid.step hlt HZS.out 13 HCC.out hown2 (((HBE.out trivial).alloc hsz _).grown hgrow2 (by simp; omega) (fun j hj => ((HOW.out trivial).lt j hj).1))
        clear hown2 hgrow2
        go_wp2
        go_roundw
        case rel => exact ⟨k + 1, i + 2, v2, by omega, by omega, rfl, by go_num, HN2, HP⟩
        case measure => simp [intOf]; omega
      · have d0 : wr.cell? ⟨g, off + i, none⟩ = some (.int .u8 92) := HCE.out 0 (by decide)
        have d1 : wr.cell? ⟨g, off + (i + 1), none⟩ = some (.int .u8 116) := HCE.out 1 (by decide)
        have HN2 : Hid (i + 2 = 1 + (body (l.take (k + 1))).length) := HNX.out
        have hr2 : i + 2 < m := hrm
        clear HCE HNX hrm
        go_wp2_with (first | (go_at_call 24; refine (unescape_any 116 9 _ (by unfold short; omega)).mono ?_; rintro e wr ⟨rfl, rfl⟩) | (at_builtin; refine wpList_append_own _ rfl _ _ 23 rfl w.heap.size 5 i0 (.int .u8 0) 1 1 Try.underlying23 hi hz0 hz1 hz2 rfl (by decide) _ _ (cellsOf zs) rfl ((HOW.out trivial).alloc _) ⟨wr.heap.size, 0, none⟩ 1 1 (cellsOf [9]) rfl rfl ?c1 ?c2 ?c3 ?c4 ?c5 ?_))
        case c1 => exact laid_cells wr [9] _ rfl 5
        case c2 => exact cellsOf_one [9]
        case c3 => unfold maxLen; omega
        case c4 => omega
        case c5 => simp; omega
        intro v2 w2 hown2 hgrow2 _
        have HP : Hid (DMid w.heap.size w l (k + 1) v2 w2) := DMid.step hlt HZS.out 9 HCC.out hown2 (((HBE.out trivial).alloc hsz _).grown hgrow2 (by simp; omega) (fun j hj => ((HOW.out trivial).lt j hj).1))
        clear hown2 hgrow2
        go_wp2
        go_roundw
        case rel => exact ⟨k + 1, i + 2, v2, by omega, by omega, rfl, by go_num, HN2, HP⟩
        case measure => simp [intOf]; omega
      · obtain ⟨h32, n34, n92⟩ := h
        have HX : Hid (esc c = [c]) := by
          unfold Hid esc
          rw [if_neg (by omega), if_neg (by omega), if_neg (by omega), if_neg (by omega), if_neg (by omega), if_neg (by omega), if_neg (by omega)]
        have d0 : wr.cell? ⟨g, off + i, none⟩ = some (.int .u8 c) := by have := HCE.out 0 (by rw [HX.out]; exact Nat.zero_lt_one); rw [HX.out] at this; exact this
        have HN2 : Hid (i + 1 = 1 + (body (l.take (k + 1))).length) := by have := HNX.out; rw [HX.out] at this; exact this
        have hr2 : i + 1 < m := by rw [HX.out] at hrm; exact hrm
        have q34 : (c == 34) = false := beq_eq_false_iff_ne.2 n34
        have q92 : (c != 92) = true := by rw [bne_iff_ne]; exact n92
        clear HCE HNX hrm n34 n92 HX
        go_wp2_with (at_builtin; refine wpList_append_own _ rfl _ _ 23 rfl w.heap.size 5 i0 (.int .u8 0) 1 1 Try.underlying23 hi hz0 hz1 hz2 rfl (by decide) _ _ (cellsOf zs) rfl ((HOW.out trivial).alloc _) ⟨wr.heap.size, 0, none⟩ 1 1 (cellsOf [c]) rfl rfl ?c1 ?c2 ?c3 ?c4 ?c5 ?_)
        case c1 => exact laid_cells wr [c] _ rfl 5
        case c2 => exact cellsOf_one [c]
        case c3 => unfold maxLen; omega
        case c4 => omega
        case c5 => simp; omega
        intro v2 w2 hown2 hgrow2 _
        have HP : Hid (DMid w.heap.size w l (k + 1) v2 w2) := DMid.step hlt HZS.out c HCC.out hown2 (((HBE.out trivial).alloc hsz _).grown hgrow2 (by simp; omega) (fun j hj => ((HOW.out trivial).lt j hj).1))
        clear hown2 hgrow2
        go_wp2
        go_roundw
        case rel => exact ⟨k + 1, i + 1, v2, by omega, by omega, rfl, by go_num, HN2, HP⟩
        case measure => simp [intOf]; omega
      · obtain ⟨h32, n8, n12, n10, n13, n9⟩ := h
        have HX : Hid (esc c = [92, 117, 48, 48, hexd (c / 16), hexd (c % 16)]) := by
          unfold Hid esc
          rw [if_neg (by omega), if_neg (by omega), if_neg (by omega), if_neg (by omega), if_neg (by omega), if_neg (by omega), if_pos (by omega)]
        have d0 : wr.cell? ⟨g, off + i, none⟩ = some (.int .u8 92) := by have := HCE.out 0 (by rw [HX.out]; show 0 < 6; omega); rw [HX.out] at this; exact this
        have d1 : wr.cell? ⟨g, off + (i + 1), none⟩ = some (.int .u8 117) := by have := HCE.out 1 (by rw [HX.out]; show 1 < 6; omega); rw [HX.out] at this; exact this
        have d2 : wr.cell? ⟨g, off + (i + 2), none⟩ = some (.int .u8 48) := by have := HCE.out 2 (by rw [HX.out]; show 2 < 6; omega); rw [HX.out] at this; exact this
        have d3 : wr.cell? ⟨g, off + (i + 3), none⟩ = some (.int .u8 48) := by have := HCE.out 3 (by rw [HX.out]; show 3 < 6; omega); rw [HX.out] at this; exact this
        obtain ⟨ha, hha⟩ : ∃ x, x = hexd (c / 16) := ⟨_, rfl⟩
        obtain ⟨hb, hhb⟩ : ∃ x, x = hexd (c % 16) := ⟨_, rfl⟩
        have d4 : wr.cell? ⟨g, off + (i + 4), none⟩ = some (.int .u8 ha) := by have := HCE.out 4 (by rw [HX.out]; show 4 < 6; omega); rw [HX.out] at this; rw [hha]; exact this
        have d5 : wr.cell? ⟨g, off + (i + 5), none⟩ = some (.int .u8 hb) := by have := HCE.out 5 (by rw [HX.out]; show 5 < 6; omega); rw [HX.out] at this; rw [hhb]; exact this
        have HN2 : Hid (i + 6 = 1 + (body (l.take (k + 1))).length) := by have := HNX.out; rw [HX.out] at this; exact this
        have hr2 : i + 6 < m := by rw [HX.out] at hrm; exact hrm
        have HHA : Hid _ := fun w => hex_any ha (c / 16) w hha (by omega) (by omega)
        have HHB : Hid _ := fun w => hex_any hb (c % 16) w hhb (by omega) (by omega)
        have HH0 : Hid _ := fun w => hex_any 48 0 w rfl (by omega) (by omega)
        clear HCE HNX hrm HX hha hhb n8 n12 n10 n13 n9
        have hd0 : 0 ≤ c / 16 := by omega
        have hd1 : c / 16 ≤ 1 := by omega
        have he0 : 0 ≤ c % 16 := by omega
        have he1 : c % 16 ≤ 15 := by omega
        have hde : c / 16 * 16 + c % 16 = c := by omega
        obtain ⟨da, hda⟩ : ∃ x, x = c / 16 := ⟨_, rfl⟩
        obtain ⟨db, hdb⟩ : ∃ x, x = c % 16 := ⟨_, rfl⟩
        rw [← hda] at hd0 hd1 hde HHA
        rw [← hdb] at he0 he1 hde HHB
        clear hda hdb
        have hdm : decide (i < m) = true := decide_eq_true (by omega)
        go_wp2_with fail
        try rw [hdm]
        go_loop [8, 9, 10] (fun s8 s9 s10 => (s9 = .int .i64 2 ∧ s8 = .int .i64 0) ∨ (s9 = .int .i64 3 ∧ s8 = .int .i64 0) ∨ (s9 = .int .i64 4 ∧ s8 = .int .i64 0) ∨ (s9 = .int .i64 5 ∧ s8 = .int .i64 da) ∨ (s9 = .int .i64 6 ∧ s8 = .int .i64 c)) (fun _ s9 _ => 6 - (intOf s9).toNat)
        case atStart => exact Or.inl ⟨rfl, rfl⟩
        case round =>
          rcases hrel with ⟨rfl, rfl⟩ | ⟨rfl, rfl⟩ | ⟨rfl, rfl⟩ | ⟨rfl, rfl⟩ | ⟨rfl, rfl⟩
          · go_wp2_with (go_at_call 23; refine (HH0.out _).mono ?_; rintro e wr ⟨rfl, rfl⟩)
            go_round
            case rel => exact .inr (.inl ⟨rfl, rfl⟩)
            case measure => simp [intOf]
          · go_wp2_with (go_at_call 23; refine (HH0.out _).mono ?_; rintro e wr ⟨rfl, rfl⟩)
            go_round
            case rel => exact .inr (.inr (.inl ⟨rfl, rfl⟩))
            case measure => simp [intOf]
          · go_wp2_with (go_at_call 23; refine (HHA.out _).mono ?_; rintro e wr ⟨rfl, rfl⟩)
            go_round
            case rel => exact .inr (.inr (.inr (.inl ⟨rfl, by go_num⟩)))
            case measure => simp [intOf]
          · go_wp2_with (go_at_call 23; refine (HHB.out _).mono ?_; rintro e wr ⟨rfl, rfl⟩)
            go_round
            case rel => exact .inr (.inr (.inr (.inr ⟨rfl, by go_num⟩)))
            case measure => simp [intOf]
          · go_wp2_with (at_builtin; refine wpList_append_own _ rfl _ _ 23 rfl w.heap.size 5 i0 (.int .u8 0) 1 1 Try.underlying23 hi hz0 hz1 hz2 rfl (by decide) _ _ (cellsOf zs) rfl ((HOW.out trivial).alloc _) ⟨wr.heap.size, 0, none⟩ 1 1 (cellsOf [c]) rfl rfl ?c1 ?c2 ?c3 ?c4 ?c5 ?_)
            case c1 => exact fun j u h => h
            case c2 => exact cellsOf_one [c]
            case c3 => unfold maxLen; omega
            case c4 => omega
            case c5 => first | omega | (simp; omega)
            intro v2 w2 hown2 hgrow2 _
            have HP : Hid (DMid w.heap.size w l (k + 1) v2 w2) := DMid.step hlt HZS.out c HCC.out hown2 (((HBE.out trivial).alloc hsz _).grown hgrow2 (by simp; omega) (fun j hj => ((HOW.out trivial).lt j hj).1))
            clear hown2 hgrow2
            go_wp2
            go_roundw
            case rel => exact ⟨k + 1, i + 6, v2, by omega, by omega, rfl, by go_num, HN2, HP⟩
            case measure => simp [intOf]; omega
    · obtain ⟨zs, hzs, hown, hbel⟩ := hr.out
      clear hr
      have hkk : k = l.length := by omega
      have hql := quote_last l
      have hie2 := hie.out
      rw [hkk, List.take_length] at hie2
      have hie3 : i + 1 = m := by rw [HM.out]; omega
      have d0 : wr.cell? ⟨g, off + i, none⟩ = some (.int .u8 34) := by
        have h1 := HC.out i (by omega)
        rw [hie2, hql.1] at h1
        rw [hie2]
        exact cell_later hbel h1
      have HP : Hid (wr.ownsRow w.heap.size 5 1 u4 l.length (cellsOf (nums l)) ∧ Below w.heap.size w wr) := by
        rw [hkk, List.take_length] at hzs
        refine ⟨?_, hbel⟩
        rw [hzs, nums_len] at hown
        exact hown
      have q : ((i : Int) == (m : Int) - 1) = true := beq_iff_eq.2 (by omega)
      have him2 : i < m := by omega
      clear hzs hown hbel hql hie hie2 hie3 hkk HC HM
      go_wp2
      go_ret2
      exact ⟨u4, rfl, HP.out⟩
end Go.Proofs.Qxb6601343a.App
