/-
  THE WALKS: jsonfieldB1IsPlainByte, plainName, ZZPlainName, the bound on length.
-/
import Derived.Test.Qxb6600169aRows
import Derived.WalkKit
import Derived.ProofKit
import Derived.OpenShut
import Derived.ShutString
import Derived.ChangeOld
import Derived.Below
import Derived.WalkSpells
import Derived.WalkLawsBesides
import Derived.Laws.CopyOwn
import Derived.Laws.IdiomCopy
namespace Go.Proofs.Qxb6600169a.Plain
open Go.ChangeShapes Go.WideShapes Go.ChangeAt Go.RowKit

def alphaB : ByteArray := { data := #[97, 98, 99, 100, 101, 102, 103, 104, 105, 106, 107, 108, 109, 110, 111, 112, 113, 114, 115, 116, 117, 118, 119, 120, 121, 122, 65, 66, 67, 68, 69, 70, 71, 72, 73, 74, 75, 76, 77, 78, 79, 80, 81, 82, 83, 84, 85, 86, 87, 88, 89, 90, 48, 49, 50, 51, 52, 53, 54, 55, 56, 57, 45, 95] }
/-- The test of 'plainName' on one byte. -/
def plainB (c : Int) : Bool := decide (97 ≤ c ∧ c ≤ 122 ∨ 65 ≤ c ∧ c ≤ 90 ∨ 48 ≤ c ∧ c ≤ 57 ∨ c = 45 ∨ c = 95)
theorem alpha_all : ∀ k, (h : k < alphaB.size) → plainB (alphaB[k]'h).toNat = true := by decide +kernel
theorem alpha_find : ∀ c : Nat, c < 256 → plainB c = true → ∃ k : Fin 64, ∃ h : k.val < alphaB.size, (alphaB[k.val]'h).toNat = c := by decide +kernel
theorem ret_bool {a b : Bool} (h : a = b) : Ending.returned (.bool a) = .returned (.bool b) := by rw [h]
theorem hit {c : Int} {k : Nat} (h : k < 64) (hc : (((alphaB[k]'h).toNat : Int) == c) = true) : true = plainB c := by
  have := alpha_all k h
  rw [← beq_iff_eq.1 hc]
  exact this.symm
theorem miss {c : Int} (h0 : 0 ≤ c) (h1 : c ≤ 255) (h : ∀ j, ∀ hj : j < alphaB.size, (((alphaB[j]'hj).toNat : Int) == c) = false) : false = plainB c := by
  obtain ⟨n, rfl⟩ := Int.eq_ofNat_of_zero_le h0
  cases hp : plainB (n : Int) with
  | false => rfl
  | true =>
    obtain ⟨k, hk, e⟩ := alpha_find n (by omega) hp
    have := h k.val hk
    rw [e] at this
    simp at this

set_option maxRecDepth 100000 in
set_option maxHeartbeats 1000000 in
theorem isPlain_any (c : Int) (w : World) (h0 : 0 ≤ c) (h1 : c ≤ 255) :
    Calls Try.prog 12 #[.int .u8 c] w fun e w' => e = .returned (.bool (plainB c)) ∧ w' = w := by
  go_enter Try.func12, Try.ntmps12
  go_wp2
  go_loop [3] (fun i => ∃ k : Nat, k ≤ 64 ∧ i = .int .i64 k ∧ Hid (∀ j, j < k → ∀ hj : j < alphaB.size, (((alphaB[j]'hj).toNat : Int) == c) = false)) (fun i => 64 - (intOf i).toNat)
  case atStart => exact ⟨0, Nat.zero_le _, rfl, fun j hj => by omega⟩
  case round =>
    obtain ⟨k, hk, rfl, hr⟩ := hrel
    by_cases hlt : k < 64
    · go_wp2
      · go_ret
        exact ⟨ret_bool (hit hlt (by assumption)), rfl⟩
      · go_round
        case rel => exact ⟨k + 1, by omega, by go_num, fun j hj hs => by
          by_cases e : j = k
          · subst e; assumption
          · exact hr.out j (by omega) hs⟩
        case measure => simp [intOf]; omega
    · go_wp2
      go_ret
      exact ⟨ret_bool (miss h0 h1 (fun j hj => hr.out j (by have : alphaB.size = 64 := rfl; omega) hj)), rfl⟩

set_option maxHeartbeats 400000 in
theorem bytes_yes (a : Option Addr) (n c : Nat) (w : World) (hs : n ≤ 1048576) :
    Calls Try.prog 11 #[.slice a n c] w fun e w' => e = .returned (.bool true) ∧ w' = w := by
  go_enter Try.func11, Try.ntmps11
  go_wp2
  go_ret
  exact ⟨rfl, rfl⟩
set_option maxHeartbeats 400000 in
theorem bytes_no (a : Option Addr) (n c : Nat) (w : World) (hm : n ≤ maxLen) (hs : 1048576 < n) :
    Calls Try.prog 11 #[.slice a n c] w fun e w' => e = .returned (.bool false) ∧ w' = w := by
  unfold maxLen at hm
  go_enter Try.func11, Try.ntmps11
  go_wp2
  go_ret
  exact ⟨rfl, rfl⟩

/-- What 'plainName' answers of the elements. -/
def nameB (zs : List Int) : Bool := !zs.isEmpty && zs.all plainB
theorem name_yes {zs : List Int} {n k : Nat} (hn : zs.length = n) (h0 : 0 < n) (hk : ¬ k < n) (h : ∀ j, j < k → plainB (zs.getD j 0) = true) : true = nameB zs := by
  unfold nameB
  have : zs.isEmpty = false := by
    cases zs with
    | nil => simp at hn; omega
    | cons => rfl
  rw [this]
  simp only [Bool.not_false, Bool.true_and]
  symm
  rw [List.all_eq_true]
  intro x hx
  obtain ⟨j, hj, rfl⟩ := List.mem_iff_getElem.1 hx
  have := h j (by omega)
  simpa [List.getD_eq_getElem?_getD, hj] using this
theorem name_no {zs : List Int} {n k : Nat} (hn : zs.length = n) (hk : k < n) (h : plainB (zs.getD k 0) = false) : false = nameB zs := by
  unfold nameB
  have : zs.all plainB = false := by
    rw [List.all_eq_false]
    refine ⟨zs[k]'(by omega), List.getElem_mem _, ?_⟩
    simpa [List.getD_eq_getElem?_getD, show k < zs.length by omega] using h
  rw [this]
  simp

set_option maxRecDepth 100000 in
set_option maxHeartbeats 2000000 in
theorem plainName_any (g off n cap : Nat) (zs : List Int) (w : World) (hn : zs.length = n) (hm : n ≤ 1048576) (h0 : 0 < n)
    (hc : ∀ i, i < n → w.cell? ⟨g, off + i, none⟩ = some (.int .u8 (zs.getD i 0))) :
    Calls Try.prog 25 #[.slice (some ⟨g, off, none⟩) n cap] w fun e w' => e = .returned (.bool (nameB zs)) ∧ w' = w := by
  have HN : Hid _ := hn
  clear hn
  have hz : ((n : Int) == 0) = false := by simp; omega
  go_enter Try.func25, Try.ntmps25
  go_wp2
  go_loop [4, 10] (fun _ i => ∃ k : Nat, k ≤ n ∧ i = .int .i64 k ∧ Hid (∀ j, j < k → plainB (zs.getD j 0) = true)) (fun _ i => n - (intOf i).toNat)
  case atStart => exact ⟨0, Nat.zero_le _, rfl, fun j hj => by omega⟩
  case round =>
    obtain ⟨k, hk, rfl, hr⟩ := hrel
    by_cases hlt : k < n
    · have hcell := hc k hlt
      obtain ⟨c, hcc⟩ : ∃ c, c = zs.getD k 0 := ⟨_, rfl⟩
      rw [← hcc] at hcell
      have HC : Hid (c = zs.getD k 0) := hcc
      clear hcc hc
      have hcls : (97 ≤ c ∧ c ≤ 122) ∨ (65 ≤ c ∧ c ≤ 90) ∨ (48 ≤ c ∧ c ≤ 57) ∨ (45 ≤ c ∧ c ≤ 45) ∨ (95 ≤ c ∧ c ≤ 95) ∨ (c ≤ 44) ∨ (46 ≤ c ∧ c ≤ 47) ∨ (58 ≤ c ∧ c ≤ 64) ∨ (91 ≤ c ∧ c ≤ 94) ∨ (96 ≤ c ∧ c ≤ 96) ∨ (123 ≤ c) := by omega
      rcases hcls with ⟨h1, h2⟩ | ⟨h1, h2⟩ | ⟨h1, h2⟩ | ⟨h1, h2⟩ | ⟨h1, h2⟩ | h1 | ⟨h1, h2⟩ | ⟨h1, h2⟩ | ⟨h1, h2⟩ | ⟨h1, h2⟩ | h1
      · have q45 : (c == 45) = false := by simp; omega
        have q95 : (c == 95) = false := by simp; omega
        have HP : Hid (plainB c = true) := decide_eq_true (by omega)
        go_wp2
        go_round
        case rel => exact ⟨k + 1, by omega, by go_num, fun j hj => by
          by_cases e : j = k
          · rw [e, ← HC.out]; exact HP.out
          · exact hr.out j (by omega)⟩
        case measure => simp [intOf]; omega
      · have q45 : (c == 45) = false := by simp; omega
        have q95 : (c == 95) = false := by simp; omega
        have HP : Hid (plainB c = true) := decide_eq_true (by omega)
        go_wp2
        go_round
        case rel => exact ⟨k + 1, by omega, by go_num, fun j hj => by
          by_cases e : j = k
          · rw [e, ← HC.out]; exact HP.out
          · exact hr.out j (by omega)⟩
        case measure => simp [intOf]; omega
      · have q45 : (c == 45) = false := by simp; omega
        have q95 : (c == 95) = false := by simp; omega
        have HP : Hid (plainB c = true) := decide_eq_true (by omega)
        go_wp2
        go_round
        case rel => exact ⟨k + 1, by omega, by go_num, fun j hj => by
          by_cases e : j = k
          · rw [e, ← HC.out]; exact HP.out
          · exact hr.out j (by omega)⟩
        case measure => simp [intOf]; omega
      · have q45 : (c == 45) = true := by simp; omega
        have q95 : (c == 95) = false := by simp; omega
        have HP : Hid (plainB c = true) := decide_eq_true (by omega)
        go_wp2
        go_round
        case rel => exact ⟨k + 1, by omega, by go_num, fun j hj => by
          by_cases e : j = k
          · rw [e, ← HC.out]; exact HP.out
          · exact hr.out j (by omega)⟩
        case measure => simp [intOf]; omega
      · have q45 : (c == 45) = false := by simp; omega
        have q95 : (c == 95) = true := by simp; omega
        have HP : Hid (plainB c = true) := decide_eq_true (by omega)
        go_wp2
        go_round
        case rel => exact ⟨k + 1, by omega, by go_num, fun j hj => by
          by_cases e : j = k
          · rw [e, ← HC.out]; exact HP.out
          · exact hr.out j (by omega)⟩
        case measure => simp [intOf]; omega
      · have q45 : (c == 45) = false := by simp; omega
        have q95 : (c == 95) = false := by simp; omega
        have d122 : decide (c ≤ 122) = true := decide_eq_true (by omega)
        have d90 : decide (c ≤ 90) = true := decide_eq_true (by omega)
        have d57 : decide (c ≤ 57) = true := decide_eq_true (by omega)
        have HP : Hid (plainB c = false) := decide_eq_false (by omega)
        go_wp2
        go_ret
        exact ⟨ret_bool (name_no HN.out hlt (by rw [← HC.out]; exact HP.out)), rfl⟩
      · have q45 : (c == 45) = false := by simp; omega
        have q95 : (c == 95) = false := by simp; omega
        have d122 : decide (c ≤ 122) = true := decide_eq_true (by omega)
        have d90 : decide (c ≤ 90) = true := decide_eq_true (by omega)
        have d57 : decide (c ≤ 57) = true := decide_eq_true (by omega)
        have HP : Hid (plainB c = false) := decide_eq_false (by omega)
        go_wp2
        go_ret
        exact ⟨ret_bool (name_no HN.out hlt (by rw [← HC.out]; exact HP.out)), rfl⟩
      · have q45 : (c == 45) = false := by simp; omega
        have q95 : (c == 95) = false := by simp; omega
        have d122 : decide (c ≤ 122) = true := decide_eq_true (by omega)
        have d90 : decide (c ≤ 90) = true := decide_eq_true (by omega)
        have d57 : decide (c ≤ 57) = false := decide_eq_false (by omega)
        have HP : Hid (plainB c = false) := decide_eq_false (by omega)
        go_wp2
        go_ret
        exact ⟨ret_bool (name_no HN.out hlt (by rw [← HC.out]; exact HP.out)), rfl⟩
      · have q45 : (c == 45) = false := by simp; omega
        have q95 : (c == 95) = false := by simp; omega
        have d122 : decide (c ≤ 122) = true := decide_eq_true (by omega)
        have d90 : decide (c ≤ 90) = false := decide_eq_false (by omega)
        have d57 : decide (c ≤ 57) = false := decide_eq_false (by omega)
        have HP : Hid (plainB c = false) := decide_eq_false (by omega)
        go_wp2
        go_ret
        exact ⟨ret_bool (name_no HN.out hlt (by rw [← HC.out]; exact HP.out)), rfl⟩
      · have q45 : (c == 45) = false := by simp; omega
        have q95 : (c == 95) = false := by simp; omega
        have d122 : decide (c ≤ 122) = true := decide_eq_true (by omega)
        have d90 : decide (c ≤ 90) = false := decide_eq_false (by omega)
        have d57 : decide (c ≤ 57) = false := decide_eq_false (by omega)
        have HP : Hid (plainB c = false) := decide_eq_false (by omega)
        go_wp2
        go_ret
        exact ⟨ret_bool (name_no HN.out hlt (by rw [← HC.out]; exact HP.out)), rfl⟩
      · have q45 : (c == 45) = false := by simp; omega
        have q95 : (c == 95) = false := by simp; omega
        have d122 : decide (c ≤ 122) = false := decide_eq_false (by omega)
        have d90 : decide (c ≤ 90) = false := decide_eq_false (by omega)
        have d57 : decide (c ≤ 57) = false := decide_eq_false (by omega)
        have HP : Hid (plainB c = false) := decide_eq_false (by omega)
        go_wp2
        go_ret
        exact ⟨ret_bool (name_no HN.out hlt (by rw [← HC.out]; exact HP.out)), rfl⟩
    · go_wp2
      go_ret
      exact ⟨ret_bool (name_yes HN.out h0 hlt hr.out), rfl⟩

set_option maxHeartbeats 400000 in
theorem plainName_none (a : Option Addr) (cap : Nat) (w : World) :
    Calls Try.prog 25 #[.slice a 0 cap] w fun e w' => e = .returned (.bool false) ∧ w' = w := by
  go_enter Try.func25, Try.ntmps25
  go_wp2
  go_ret
  exact ⟨rfl, rfl⟩
theorem plainName_all (a : Addr) (n cap : Nat) (zs : List Int) (w : World) (hn : zs.length = n) (hm : n ≤ 1048576) (hsp : a.spot = none)
    (hc : ∀ i, i < n → w.cell? ⟨a.block, a.off + i, none⟩ = some (.int .u8 (zs.getD i 0))) :
    Calls Try.prog 25 #[.slice (some a) n cap] w fun e w' => e = .returned (.bool (nameB zs)) ∧ w' = w := by
  obtain ⟨g, off, sp⟩ := a
  obtain rfl : sp = none := hsp
  by_cases h0 : 0 < n
  · exact plainName_any g off n cap zs w hn hm h0 hc
  · obtain rfl : n = 0 := by omega
    obtain rfl : zs = [] := List.eq_nil_of_length_eq_zero hn
    exact plainName_none _ _ _
set_option maxHeartbeats 400000 in
theorem zz_all (g n cap : Nat) (zs : List Int) (w : World) (hn : zs.length = n) (hm : n ≤ 1048576)
    (hc : ∀ i, i < n → w.cell? ⟨g, i, none⟩ = some (.int .u8 (zs.getD i 0))) :
    Calls Try.prog 13 #[.slice (some ⟨g, 0, none⟩) n cap] w fun e w' => e = .returned (.bool (nameB zs)) ∧ w' = w := by
  have H : Hid _ := fun _ : True => plainName_all ⟨g, 0, none⟩ n cap zs w hn hm rfl (fun i hi => by simpa using hc i hi)
  clear hc hn
  go_enter Try.func13, Try.ntmps13
  go_wp2_with fail
  refine (H.out trivial).mono ?_
  rintro e w' ⟨rfl, rfl⟩
  go_wp2
  go_ret
  exact ⟨rfl, rfl⟩
set_option maxHeartbeats 400000 in
theorem zz_none (w : World) :
    Calls Try.prog 13 #[.slice none 0 0] w fun e w' => e = .returned (.bool false) ∧ w' = w := by
  go_enter Try.func13, Try.ntmps13
  go_wp2_with fail
  refine (plainName_none _ _ _).mono ?_
  rintro e w' ⟨rfl, rfl⟩
  go_wp2
  go_ret
  exact ⟨rfl, rfl⟩
end Go.Proofs.Qxb6600169a.Plain
