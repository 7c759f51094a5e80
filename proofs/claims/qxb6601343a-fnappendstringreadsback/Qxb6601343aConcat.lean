/-
  THE WALKS: zqb1BytesEqual, ZZb1appendString, FnAppendStringConcat.
-/
import Derived.Test.Qxb6601343aApp
namespace Go.Proofs.Qxb6601343a.App
open Go.ChangeShapes Go.WideShapes Go.ChangeAt Go.RowKit

set_option maxRecDepth 100000 in
set_option maxHeartbeats 1000000 in
theorem eq_true (g o1 h o2 n c d : Nat) (zs : List Int) (w : World) (hn : n ≤ 16777216)
    (ha : ∀ j, j < n → w.cell? ⟨g, o1 + j, none⟩ = some (.int .u8 (zs.getD j 0))) (hb : ∀ j, j < n → w.cell? ⟨h, o2 + j, none⟩ = some (.int .u8 (zs.getD j 0))) :
    Calls Try.prog 17 #[.slice (some ⟨g, o1, none⟩) n c, .slice (some ⟨h, o2, none⟩) n d] w fun e w' => e = .returned (.bool true) ∧ ∃ q, w' = w.drewN q := by
  have HA : Hid _ := ha
  have HB : Hid _ := hb
  clear ha hb
  go_enter Try.func17, Try.ntmps17
  go_wp2
  go_loopw [5] (fun s5 wr => ∃ k q : Nat, k ≤ n ∧ s5 = .int .i64 k ∧ wr = w.drewN q) (fun s5 _ => n - (intOf s5).toNat)
  case atStart => exact ⟨0, 0, Nat.zero_le _, rfl, rfl⟩
  case round =>
    obtain ⟨k, q, hk, rfl, rfl⟩ := hrel
    by_cases hlt : k < n
    · have c1 := HA.out k hlt
      have c2 := HB.out k hlt
      have hl : (k : Int) < (n : Int) := by omega
      go_wp2
      go_quiet (fail)
      go_wp2
      go_roundw
      case rel => exact ⟨k + 1, q + nq, by omega, by go_num, rfl⟩
      case measure => simp [intOf]; omega
    · go_wp2
      go_ret
      exact ⟨rfl, q, rfl⟩

set_option maxHeartbeats 400000 in
theorem eq_empty (a b : Option Addr) (c d : Nat) (w : World) :
    Calls Try.prog 17 #[.slice a 0 c, .slice b 0 d] w fun e w' => e = .returned (.bool true) ∧ w' = w := by
  go_enter Try.func17, Try.ntmps17
  go_wp2
  go_loop [5] (fun s5 => s5 = .int .i64 0) (fun _ => 0)
  case atStart => rfl
  case round =>
    obtain rfl := hrel
    go_wp2
    go_ret
    exact ⟨rfl, rfl⟩

set_option maxHeartbeats 400000 in
theorem zz_app (ao : Option Addr) (n : Nat) (olds : List Int) (s : ByteArray) (w : World) (hnone : ao = none → n = 0) (hlo : olds.length = n) (hn : n ≤ 1048576) (hs : s.size ≤ 1048576)
    (holds : ∀ b, ao = some b → ∀ j, j < n → w.cell? (b.add j) = some (.int .u8 (olds.getD j 0))) :
    Calls Try.prog 16 #[.slice ao n n, .string s] w fun e w' => ∃ v', e = .returned v' ∧ w'.ownsRow w.heap.size 5 1 v' (olds ++ quote s.data.toList).length (cellsOf (olds ++ quote s.data.toList)) ∧ Below w.heap.size w w' := by
  have H : Hid _ := fun _ : True => app_any ao n olds s w hnone hlo hn hs holds
  clear hnone hlo holds
  go_enter Try.func16, Try.ntmps16
  go_wp2_with fail
  refine (H.out trivial).mono ?_
  rintro e w1 ⟨v, rfl, h1, h2⟩
  have HP : Hid _ := And.intro h1 h2
  clear h1 h2
  go_wp2
  go_ret
  exact ⟨v, rfl, HP.out⟩

/-- A row that is owned and not empty, as the walk reads it. -/
theorem own_some {w : World} {B : Nat} {v : Value} {zs : List Int} (h : w.ownsRow B 5 1 v zs.length (cellsOf zs)) (h0 : 0 < zs.length) :
    ∃ g cap, v = .slice (some ⟨g, 0, none⟩) zs.length cap ∧ B ≤ g ∧ g < w.heap.size ∧ ∀ j, j < zs.length → w.cell? ⟨g, j, none⟩ = some (.int .u8 (zs.getD j 0)) := by
  rcases h.2 with ⟨_, hz⟩ | ⟨g, cap, cur, hv, hB, hg, hr⟩
  · omega
  · subst hv
    have hlt := (h.lt g rfl).2
    refine ⟨g, cap, rfl, hB, hlt, fun j hj => ?_⟩
    rw [h.cellAt j (by omega)]
    unfold cellsOf
    simp [hj]
theorem quote_len (l : List UInt8) : 2 ≤ (quote l).length ∧ (quote l).length ≤ 6 * l.length + 2 := by
  have := body_len l
  unfold quote
  simp only [List.length_append, List.length_cons, List.length_nil]
  omega
/-- THE PLAIN LAW: the quoted text of two texts is the one's without its last byte and the other's without its first. -/
theorem quote_concat (a b : List UInt8) : quote (a ++ b) = (quote a).take ((quote a).length - 1) ++ (quote b).drop 1 := by
  have h : (quote a).take ((quote a).length - 1) = [34] ++ body a := by
    unfold quote
    rw [List.take_append_of_le_length (by simp)]
    apply List.take_of_length_le
    simp
  rw [h]
  unfold quote
  rw [body_append]
  simp

theorem szb (s t : ByteArray) : (s ++ t).data.toList.length = s.size + t.size := by simp
theorem tl_append (s t : ByteArray) : (s ++ t).data.toList = s.data.toList ++ t.data.toList := by simp
theorem take_succ_getD (zs : List Int) (k : Nat) (h : k < zs.length) : zs.take (k + 1) = zs.take k ++ [zs.getD k 0] := by
  rw [List.take_succ_eq_append_getElem h]
  simp [h]

set_option maxRecDepth 100000 in
set_option maxHeartbeats 4000000 in
theorem concat_short (s t : ByteArray) (w : World) (hs : s.size ≤ 524288) (ht : t.size ≤ 524288) (hb : ∀ w, Calls Try.prog 19 #[.string s, .string t] w fun e w' => e = .returned (.bool true) ∧ w' = w) :
    Calls Try.prog 7 #[.string s, .string t] w fun e w' => e = .returned (.bool true) ∧ Below w.heap.size w w' := by
  obtain ⟨i0, hi, hz0, hz1, hz2⟩ := info_parts info5
  have HB : Hid _ := hb
  clear hb
  go_enter Try.func7, Try.ntmps7
  go_wp2_with (go_at_call 19; refine (HB.out _).mono ?_; rintro e w' ⟨rfl, rfl⟩)
  refine (zz_app none 0 [] (s ++ t) _ (fun _ => rfl) rfl (by omega) (by simp; omega) (fun b h => by cases h)).mono ?_
  rintro e w1 ⟨v1, rfl, ho1, hb1⟩
  have q1 := quote_len (s ++ t).data.toList
  obtain ⟨z1, hq1⟩ : ∃ z1, z1 = quote (s ++ t).data.toList := ⟨_, rfl⟩
  rw [← hq1] at q1
  rw [List.nil_append, ← hq1] at ho1
  obtain ⟨g1, p1, rfl, hB1, hg1, hc1⟩ := own_some ho1 (by omega)
  have HQ1 : Hid _ := hq1
  have HC1 : Hid _ := hc1
  have HB1 : Hid _ := fun _ : True => hb1
  have hl1 : z1.length ≤ 6291458 := by have := szb s t; omega
  clear ho1 hq1 hc1 HB
  have z1s := hb1.size
  clear hb1
  go_wp2_with fail
  refine (zz_app none 0 [] s _ (fun _ => rfl) rfl (by omega) (by omega) (fun b h => by cases h)).mono ?_
  rintro e w2 ⟨v2, rfl, ho2, hb2⟩
  have q2 := quote_len s.data.toList
  obtain ⟨z2, hq2⟩ : ∃ z2, z2 = quote s.data.toList := ⟨_, rfl⟩
  rw [← hq2] at q2
  rw [List.nil_append, ← hq2] at ho2
  obtain ⟨g2, p2, rfl, hB2, hg2, hc2⟩ := own_some ho2 (by omega)
  have HQ2 : Hid _ := hq2
  have HC2 : Hid _ := hc2
  have HB2 : Hid _ := fun _ : True => hb2
  have hl2 : z2.length ≤ 3145730 := by simp at q2; omega
  have hm2 : 2 ≤ z2.length := q2.1
  have z2s := hb2.size
  clear ho2 hq2 hc2 hb2 q2
  go_wp2_with fail
  refine (zz_app none 0 [] t _ (fun _ => rfl) rfl (by omega) (by omega) (fun b h => by cases h)).mono ?_
  rintro e w3 ⟨v3, rfl, ho3, hb3⟩
  have q3 := quote_len t.data.toList
  obtain ⟨z3, hq3⟩ : ∃ z3, z3 = quote t.data.toList := ⟨_, rfl⟩
  rw [← hq3] at q3
  rw [List.nil_append, ← hq3] at ho3
  obtain ⟨g3, p3, rfl, hB3, hg3, hc3⟩ := own_some ho3 (by omega)
  have HQ3 : Hid _ := hq3
  have HC3 : Hid _ := hc3
  have HB3 : Hid _ := fun _ : True => hb3
  have hl3 : z3.length ≤ 3145730 := by simp at q3; omega
  have hm3 : 2 ≤ z3.length := q3.1
  have z3s := hb3.size
  have HC2' : Hid (∀ j, j < z2.length → w3.cell? ⟨g2, j, none⟩ = some (.int .u8 (z2.getD j 0))) := fun j hj => cell_later hb3 (HC2.out j hj)
  have HC1' : Hid (∀ j, j < z1.length → w3.cell? ⟨g1, j, none⟩ = some (.int .u8 (z1.getD j 0))) := fun j hj => cell_later hb3 (cell_later (HB2.out trivial) (HC1.out j hj))
  have HBW : Hid (Below w'.heap.size w' w3) := ((HB1.out trivial).trans ((HB2.out trivial).mono (by omega))).trans (hb3.mono (by omega))
  clear ho3 hq3 hc3 hb3 q3 HC2 HC1 HB1 HB2 HB3
  go_wp2_with (at_make; refine wpList_make_own _ rfl _ _ 23 rfl w3.heap.size 5 i0 (.int .u8 0) 1 Try.underlying23 hi hz0 hz1 .i64 .i64 _ (z2.length + z3.length) rfl rfl ?hC ?b2 ?b3 ?b4 ?_)
  case hC => simp
  case b2 => rw [hz2]; omega
  case b3 => unfold maxLen; omega
  case b4 => omega
  intro w4 hown4 hgrow4
  have H4 : Hid (∃ zs, zs = z2.take 0 ∧ w4.ownsRow w3.heap.size 5 1 (.slice (some ⟨w3.heap.size, 0, none⟩) 0 (z2.length + z3.length)) zs.length (cellsOf zs) ∧ Below w3.heap.size w3 w4) :=
    ⟨[], rfl, hown4, (Below.refl _ _).grown hgrow4 (Nat.le_refl _) (fun k h => by cases h)⟩
  clear hown4 hgrow4
  go_wp2_with fail
  go_loopw [8, 9] (fun s8 s9 wr => ∃ (k : Nat) (v : Value), k ≤ z2.length - 1 ∧ s8 = v ∧ s9 = .int .i64 k ∧ Hid (∃ zs, zs = z2.take k ∧ wr.ownsRow w3.heap.size 5 1 v zs.length (cellsOf zs) ∧ Below w3.heap.size w3 wr)) (fun _ s9 _ => z2.length - (intOf s9).toNat)
  case atStart => exact ⟨0, _, Nat.zero_le _, rfl, rfl, H4⟩
  case round =>
    obtain ⟨k, v, hk, rfl, rfl, hr⟩ := hrel
    clear H4
    by_cases hlt : k < z2.length - 1
    · obtain ⟨zs, hzs, hown, hbel⟩ := hr.out
      clear hr
      have hzl : zs.length = k := by rw [hzs]; simp; omega
      have hsz := hbel.size
      have hcell := cell_later hbel (HC2'.out k (by omega))
      obtain ⟨c, hcc⟩ : ∃ c, c = z2.getD k 0 := ⟨_, rfl⟩
      rw [← hcc] at hcell
      have HST : Hid (zs ++ [c] = z2.take (k + 1)) := by unfold Hid; rw [take_succ_getD z2 k (by omega), hzs, hcc]
      have HZL : Hid _ := hzl
      have HOW : Hid _ := fun _ : True => hown
      have HBE : Hid _ := fun _ : True => hbel
      have hzb : zs.length ≤ 3145730 := by omega
      clear hzs hown hbel hcc hzl
      go_wp2_with (at_builtin; refine wpList_append_own _ rfl _ _ 23 rfl w3.heap.size 5 i0 (.int .u8 0) 1 1 Try.underlying23 hi hz0 hz1 hz2 rfl (by decide) _ _ (cellsOf zs) rfl ((HOW.out trivial).alloc _) ⟨wr.heap.size, 0, none⟩ 1 1 (cellsOf [c]) rfl rfl ?c1 ?c2 ?c3 ?c4 ?c5 ?_)
      case c1 => exact laid_cells wr [c] _ rfl 5
      case c2 => exact cellsOf_one [c]
      case c3 => unfold maxLen; omega
      case c4 => omega
      case c5 => simp; omega
      intro v2 w5 hown2 hgrow2 _
      have HP : Hid (∃ zs, zs = z2.take (k + 1) ∧ w5.ownsRow w3.heap.size 5 1 v2 zs.length (cellsOf zs) ∧ Below w3.heap.size w3 w5) := by
        refine ⟨zs ++ [c], HST.out, ?_, ((HBE.out trivial).alloc hsz _).grown hgrow2 (by simp; omega) (fun j hj => ((HOW.out trivial).lt j hj).1)⟩
        rw [cellsOf_append, List.length_append]
        exact hown2
      clear hown2 hgrow2
      go_wp2
      go_roundw
      case rel => exact ⟨k + 1, v2, by omega, rfl, by go_num, HP⟩
      case measure => simp [intOf]; omega
    · have hkk : k = z2.length - 1 := by omega
      have H5 : Hid (∃ zs, zs = z2.take (z2.length - 1) ++ (z3.take 1).drop 1 ∧ wr.ownsRow w3.heap.size 5 1 u8 zs.length (cellsOf zs) ∧ Below w3.heap.size w3 wr) := by
        obtain ⟨zs, hzs, h1, h2⟩ := hr.out
        refine ⟨zs, ?_, h1, h2⟩
        rw [hzs, hkk, List.drop_of_length_le (l := z3.take 1) (by simp; omega)]
        simp
      clear hr hkk
      go_wp2_with fail
      obtain ⟨w6, hw6⟩ : ∃ x, x = wr := ⟨_, rfl⟩
      subst hw6
      go_loopw [8, 10] (fun s8 s10 wr => ∃ (k : Nat) (v : Value), 1 ≤ k ∧ k ≤ z3.length ∧ s8 = v ∧ s10 = .int .i64 k ∧ Hid (∃ zs, zs = z2.take (z2.length - 1) ++ (z3.take k).drop 1 ∧ wr.ownsRow w3.heap.size 5 1 v zs.length (cellsOf zs) ∧ Below w3.heap.size w3 wr)) (fun _ s10 _ => z3.length - (intOf s10).toNat)
      case atStart => exact ⟨1, _, Nat.le_refl _, by omega, rfl, rfl, H5⟩
      case round =>
        obtain ⟨m, v, hm1, hm, rfl, rfl, hr⟩ := hrel
        clear H5
        by_cases hlt2 : m < z3.length
        · obtain ⟨zs, hzs, hown, hbel⟩ := hr.out
          clear hr
          have hzb : zs.length ≤ 6291460 := by rw [hzs]; simp; omega
          have hsz := hbel.size
          have hcell := cell_later hbel (HC3.out m hlt2)
          obtain ⟨c, hcc⟩ : ∃ c, c = z3.getD m 0 := ⟨_, rfl⟩
          rw [← hcc] at hcell
          have HST : Hid (zs ++ [c] = z2.take (z2.length - 1) ++ (z3.take (m + 1)).drop 1) := by
            unfold Hid
            rw [take_succ_getD z3 m hlt2, hzs, hcc, List.drop_append_of_le_length (by simp; omega), List.append_assoc]
          have HOW : Hid _ := fun _ : True => hown
          have HBE : Hid _ := fun _ : True => hbel
          clear hzs hown hbel hcc
          go_wp2_with (at_builtin; refine wpList_append_own _ rfl _ _ 23 rfl w3.heap.size 5 i0 (.int .u8 0) 1 1 Try.underlying23 hi hz0 hz1 hz2 rfl (by decide) _ _ (cellsOf zs) rfl ((HOW.out trivial).alloc _) ⟨wr.heap.size, 0, none⟩ 1 1 (cellsOf [c]) rfl rfl ?c1 ?c2 ?c3 ?c4 ?c5 ?_)
          case c1 => exact laid_cells wr [c] _ rfl 5
          case c2 => exact cellsOf_one [c]
          case c3 => unfold maxLen; omega
          case c4 => omega
          case c5 => simp; omega
          intro v2 w5 hown2 hgrow2 _
          have HP : Hid (∃ zs, zs = z2.take (z2.length - 1) ++ (z3.take (m + 1)).drop 1 ∧ w5.ownsRow w3.heap.size 5 1 v2 zs.length (cellsOf zs) ∧ Below w3.heap.size w3 w5) := by
            refine ⟨zs ++ [c], HST.out, ?_, ((HBE.out trivial).alloc hsz _).grown hgrow2 (by simp; omega) (fun j hj => ((HOW.out trivial).lt j hj).1)⟩
            rw [cellsOf_append, List.length_append]
            exact hown2
          clear hown2 hgrow2
          go_wp2
          go_roundw
          case rel => exact ⟨m + 1, v2, by omega, by omega, rfl, by go_num, HP⟩
          case measure => simp [intOf]; omega
        · obtain ⟨zs, hzs, hown, hbel⟩ := hr.out
          have hmm : m = z3.length := by omega
          have hzz : zs = z1 := by
            rw [hzs, hmm, List.take_length, HQ1.out, HQ2.out, HQ3.out, tl_append]
            exact (quote_concat _ _).symm
          subst hzz
          obtain ⟨g5, p5, hv5, hB5, hg5, hc5⟩ := own_some hown (by omega)
          have HE : Hid _ := fun _ : True => eq_true g1 0 g5 0 zs.length p1 p5 zs wr (by omega) (fun j hj => by rw [Nat.zero_add]; exact cell_later hbel (HC1'.out j hj)) (fun j hj => by rw [Nat.zero_add]; exact hc5 j hj)
          have HBF : Hid (Below w'.heap.size w' wr) := HBW.out.trans (hbel.mono (by have := HBW.out.size; omega))
          clear hr hzs hown hbel hmm hB5 hg5 hc5
          rw [hv5]
          go_wp2_with fail
          refine (HE.out trivial).mono ?_
          rintro e w7 ⟨rfl, q, rfl⟩
          go_wp2
          go_ret
          exact ⟨rfl, below_drewN HBF.out q⟩
end Go.Proofs.Qxb6601343a.App
