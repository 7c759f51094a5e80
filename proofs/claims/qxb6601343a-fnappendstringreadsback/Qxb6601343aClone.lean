/-
  THE WALK: zqb1CloneBytes.
-/
import Derived.Test.Qxb6601343aDecW
import Derived.WalkLawsBesides
namespace Go.Proofs.Qxb6601343a.App
open Go.ChangeShapes Go.WideShapes Go.ChangeAt Go.RowKit

set_option maxHeartbeats 400000 in
theorem clone_nil (w : World) :
    Calls Try.prog 15 #[.slice none 0 0] w fun e w' => e = .returned (.slice none 0 0) ∧ w' = w := by
  have heq := fun w : World => Lib.run_eql_slice_nil (P := Try.prog) w 23 5 none 0 0 0 0 Try.underlying23
  go_enter Try.func15, Try.ntmps15
  go_wp2
  go_ret
  exact ⟨rfl, rfl⟩

/-- The copy's row at the loop's head: its first k bytes are the given ones. -/
def CMid (B : Nat) (w : World) (zs : List Int) (n k : Nat) (wr : World) : Prop :=
  ∃ ys : List Int, ys.length = n ∧ (∀ j, j < k → ys.getD j 0 = zs.getD j 0) ∧ wr.ownsRow B 5 1 (.slice (some ⟨B, 0, none⟩) n n) n (cellsOf ys) ∧ Below B w wr
theorem cellsOf_set (ys : List Int) (k : Nat) (x : Int) : (cellsOf ys).set k (.int .u8 x) = cellsOf (ys.set k x) := by simp [cellsOf, List.map_set]
theorem CMid.step {B : Nat} {w : World} {zs : List Int} {n k : Nat} {wr : World} (hk : k < n) (h : CMid B w zs n k wr) : CMid B w zs n (k + 1) (wr.setCell ⟨B, k, none⟩ (.int .u8 (zs.getD k 0))) := by
  obtain ⟨ys, hl, hy, ho, hb⟩ := h
  have hst := ho.stored k (.int .u8 (zs.getD k 0))
  refine ⟨ys.set k (zs.getD k 0), by simpa using hl, fun j hj => ?_, ?_, hb.grown hst.2 (Nat.le_of_lt (ho.lt B rfl).2) (fun j hj => by cases hj; exact Nat.le_refl _)⟩
  · by_cases e : j = k
    · subst e; simp [List.getD_eq_getElem?_getD, hl, hk]
    · have := hy j (by omega)
      simp only [List.getD_eq_getElem?_getD] at this ⊢
      rw [List.getElem?_set_ne (Ne.symm e)]
      exact this
  · rw [← cellsOf_set]; exact hst.1
theorem CMid.last {B : Nat} {w : World} {zs : List Int} {n : Nat} {wr : World} (hz : zs.length = n) (h : CMid B w zs n n wr) : wr.ownsRow B 5 1 (.slice (some ⟨B, 0, none⟩) n n) n (cellsOf zs) ∧ Below B w wr := by
  obtain ⟨ys, hl, hy, ho, hb⟩ := h
  have : ys = zs := by
    apply List.ext_getElem (by omega)
    intro j h1 h2
    have := hy j (by omega)
    simpa [List.getD_eq_getElem?_getD, h1, h2] using this
  subst this
  exact ⟨ho, hb⟩

set_option maxRecDepth 100000 in
set_option maxHeartbeats 1000000 in
theorem clone_some (a : Addr) (n cap : Nat) (zs : List Int) (w : World) (hn : n ≤ 1048576) (hz : zs.length = n) (hcell : ∀ i, i < n → w.cell? (a.add i) = some (.int .u8 (zs.getD i 0))) :
    Calls Try.prog 15 #[.slice (some a) n cap] w fun e w' => e = .returned (.slice (some ⟨w.heap.size, 0, none⟩) n n) ∧ w'.ownsRow w.heap.size 5 1 (.slice (some ⟨w.heap.size, 0, none⟩) n n) n (cellsOf zs) ∧ Below w.heap.size w w' := by
  obtain ⟨i0, hi, hz0, hz1, hz2⟩ := info_parts info5
  have HZ : Hid _ := hz
  have HC : Hid _ := hcell
  clear hz hcell
  have heq := fun w : World => Lib.run_eql_slice_nil (P := Try.prog) w 23 5 (some a) n cap 0 0 Try.underlying23
  go_enter Try.func15, Try.ntmps15
  go_wp2_with (at_make; refine wpList_make_full _ rfl _ _ 23 rfl w.heap.size 5 i0 (.int .u8 0) 1 Try.underlying23 hi hz0 hz1 .i64 .i64 _ _ n rfl rfl rfl rfl ?b2 ?b3 ?b4 ?_)
  case b2 => rw [hz2]; omega
  case b3 => unfold maxLen; omega
  case b4 => omega
  intro w1 hown hgrow
  have H1 : Hid (CMid w.heap.size w zs n 0 w1) := ⟨List.replicate n 0, by simp, fun j hj => by omega, by
    rw [toList_madeCells_one] at hown
    rw [show cellsOf (List.replicate n 0) = List.replicate n (Value.int .u8 0) by simp [cellsOf]]
    exact hown, (Below.refl _ _).grown hgrow (Nat.le_refl _) (fun k h => by cases h)⟩
  clear hown hgrow hi hz0 hz1 hz2
  go_wp2_with fail
  go_loopw [4] (fun s3 wr => ∃ k : Nat, k ≤ n ∧ s3 = .int .i64 k ∧ Hid (CMid w.heap.size w zs n k wr)) (fun s3 _ => n - (intOf s3).toNat)
  case atStart => exact ⟨0, Nat.zero_le _, rfl, H1⟩
  case round =>
    obtain ⟨k, hk, rfl, hr⟩ := hrel
    clear H1
    by_cases hlt : k < n
    · have hl : (k : Int) < (n : Int) := by omega
      obtain ⟨c1, f1⟩ : (∃ x, wr.cell? ⟨w.heap.size, k, none⟩ = some (.int .u8 x)) ∧ wr.frozen? ⟨w.heap.size, k, none⟩ = false := by
        obtain ⟨ys, hl, hy, ho, hb⟩ := hr.out
        refine ⟨⟨ys.getD k 0, ?_⟩, ho.frozenAt k⟩
        rw [ho.cellAt k (by omega)]
        unfold cellsOf
        simp [hl, hlt]
      obtain ⟨old, c1⟩ := c1
      have c2 : wr.cell? (a.add k) = some (.int .u8 (zs.getD k 0)) := by
        obtain ⟨ys, hl, hy, ho, hb⟩ := hr.out
        exact cell_later hb (HC.out k hlt)
      have hs := CMid.step hlt hr.out
      obtain ⟨x, hx⟩ : ∃ x, x = zs.getD k 0 := ⟨_, rfl⟩
      rw [← hx] at c2 hs
      have HS : Hid _ := hs
      clear hs hx hr
      go_wp2
      go_roundw
      case rel => exact ⟨k + 1, by omega, by go_num, HS⟩
      case measure => simp [intOf]; omega
    · obtain rfl : k = n := by omega
      have HP : Hid _ := CMid.last HZ.out hr.out
      clear hr
      go_wp2
      go_ret
      exact ⟨rfl, HP.out⟩
end Go.Proofs.Qxb6601343a.App
