/-
  THE WALKS: utf8WidthB1, charCountB1, longerThan, ZZLongerThan, the bound on length.
-/
import Derived.Test.Qxb6600041aRows
import Derived.Test.Qxb6600041aUtf
import Derived.WalkKit
import Derived.ProofKit
import Derived.OpenShut
import Derived.ShutString
import Derived.WalkSpells
import Derived.WalkLawsBesides
namespace Go.Proofs.Qxb6600041a.Longer
open Go.ChangeShapes Go.WideShapes Go.ChangeAt Go.RowKit Go.Proofs.Qxb6600041a.Utf

set_option maxHeartbeats 400000 in
theorem bytes_yes (s : ByteArray) (n : Int) (w : World) (hs : s.size ≤ 1048576) :
    Calls Try.prog 9 #[.string s, .int .i64 n] w fun e w' => e = .returned (.bool true) ∧ w' = w := by
  go_enter Try.func9, Try.ntmps9
  go_wp2
  go_ret
  exact ⟨rfl, rfl⟩

set_option maxHeartbeats 400000 in
theorem bytes_no (s : ByteArray) (n : Int) (w : World) (hm : s.size ≤ maxLen) (hs : 1048576 < s.size) :
    Calls Try.prog 9 #[.string s, .int .i64 n] w fun e w' => e = .returned (.bool false) ∧ w' = w := by
  unfold maxLen at hm
  go_enter Try.func9, Try.ntmps9
  go_wp2
  go_ret
  exact ⟨rfl, rfl⟩

set_option maxRecDepth 100000 in
set_option maxHeartbeats 1000000 in
theorem width_ascii (s : ByteArray) (i : Nat) (w : World) (hi : i < s.size) (h : s[i].toNat < 128) :
    Calls Try.prog 22 #[.string s, .int .i64 i] w fun e w' => e = .returned (.int .i64 ((Utf8.decode s i).2 : Nat)) ∧ w' = w := by
  have h1 : (s[i].toNat : Int) < 128 := by omega
  clear h
  go_enter Try.func22, Try.ntmps22
  go_wp2
  go_ret
  exact ⟨fin_ascii hi h1, rfl⟩

set_option maxRecDepth 100000 in
set_option maxHeartbeats 1000000 in
theorem width_low (s : ByteArray) (i : Nat) (w : World) (hi : i < s.size) (h : 128 ≤ s[i].toNat ∧ s[i].toNat ≤ 193) :
    Calls Try.prog 22 #[.string s, .int .i64 i] w fun e w' => e = .returned (.int .i64 ((Utf8.decode s i).2 : Nat)) ∧ w' = w := by
  have HC : Hid _ := fin_none hi (by omega)
  have h1 : (128 : Int) ≤ (s[i].toNat : Int) := by omega
  have h2 : (s[i].toNat : Int) ≤ 193 := by omega
  have q224 : ((s[i].toNat : Int) == 224) = false := by simp; omega
  have q237 : ((s[i].toNat : Int) == 237) = false := by simp; omega
  have q238 : ((s[i].toNat : Int) == 238) = false := by simp; omega
  have q239 : ((s[i].toNat : Int) == 239) = false := by simp; omega
  have q240 : ((s[i].toNat : Int) == 240) = false := by simp; omega
  have q244 : ((s[i].toNat : Int) == 244) = false := by simp; omega
  clear h
  go_enter Try.func22, Try.ntmps22
  go_wp2
  go_ret
  exact ⟨HC.out, rfl⟩

set_option maxRecDepth 100000 in
set_option maxHeartbeats 1000000 in
theorem width_high (s : ByteArray) (i : Nat) (w : World) (hi : i < s.size) (h : 245 ≤ s[i].toNat ∧ s[i].toNat ≤ 255) :
    Calls Try.prog 22 #[.string s, .int .i64 i] w fun e w' => e = .returned (.int .i64 ((Utf8.decode s i).2 : Nat)) ∧ w' = w := by
  have HC : Hid _ := fin_none hi (by omega)
  have h1 : (245 : Int) ≤ (s[i].toNat : Int) := by omega
  have h2 : (s[i].toNat : Int) ≤ 255 := by omega
  have q224 : ((s[i].toNat : Int) == 224) = false := by simp; omega
  have q237 : ((s[i].toNat : Int) == 237) = false := by simp; omega
  have q238 : ((s[i].toNat : Int) == 238) = false := by simp; omega
  have q239 : ((s[i].toNat : Int) == 239) = false := by simp; omega
  have q240 : ((s[i].toNat : Int) == 240) = false := by simp; omega
  have q244 : ((s[i].toNat : Int) == 244) = false := by simp; omega
  clear h
  go_enter Try.func22, Try.ntmps22
  go_wp2
  go_ret
  exact ⟨HC.out, rfl⟩

set_option maxRecDepth 100000 in
set_option maxHeartbeats 1000000 in
theorem width_194 (s : ByteArray) (i : Nat) (w : World) (hm : s.size ≤ maxLen) (hi : i < s.size) (h : 194 ≤ s[i].toNat ∧ s[i].toNat ≤ 223) :
    Calls Try.prog 22 #[.string s, .int .i64 i] w fun e w' => e = .returned (.int .i64 ((Utf8.decode s i).2 : Nat)) ∧ w' = w := by
  unfold maxLen at hm
  have HC : Hid (Cls (s[i]'hi).toNat 1 128 191) := by unfold Hid Cls; omega
  have h1 : (194 : Int) ≤ (s[i].toNat : Int) := by omega
  have h2 : (s[i].toNat : Int) ≤ 223 := by omega
  have q224 : ((s[i].toNat : Int) == 224) = false := by simp; omega
  have q237 : ((s[i].toNat : Int) == 237) = false := by simp; omega
  have q238 : ((s[i].toNat : Int) == 238) = false := by simp; omega
  have q239 : ((s[i].toNat : Int) == 239) = false := by simp; omega
  have q240 : ((s[i].toNat : Int) == 240) = false := by simp; omega
  have q244 : ((s[i].toNat : Int) == 244) = false := by simp; omega
  clear h
  go_enter Try.func22, Try.ntmps22
  go_wp2
  · go_ret
    exact ⟨fin_short hi HC.out (by omega), rfl⟩
  · go_ret
    exact ⟨fin_first hi HC.out (by omega) (by assumption), rfl⟩
  · go_loop [9, 10] (fun c j => ∃ (k x : Nat), 2 ≤ k ∧ k ≤ 4 ∧ c = .int .u8 x ∧ j = .int .i64 k ∧ Hid (∀ m, 2 ≤ m → m < k → ∀ h2 : i + m < s.size, (128 : Int) ≤ (s[i + m]'h2).toNat ∧ ((s[i + m]'h2).toNat : Int) ≤ 191)) (fun _ j => (5 - intOf j).toNat)
    case atStart => exact ⟨2, _, by omega, by omega, rfl, rfl, fun m a b => by omega⟩
    case round =>
      obtain ⟨k, x, hk1, hk2, rfl, rfl, hr⟩ := hrel
      go_wp2
      · go_ret
        exact ⟨fin_whole hi HC.out (by omega) (by omega) (by assumption) (fun m a b => hr.out m a (by omega)) rfl, rfl⟩
  · go_ret
    exact ⟨fin_first hi HC.out (by omega) (Or.inl (by assumption)), rfl⟩

set_option maxRecDepth 100000 in
set_option maxHeartbeats 1000000 in
theorem width_224 (s : ByteArray) (i : Nat) (w : World) (hm : s.size ≤ maxLen) (hi : i < s.size) (h : 224 ≤ s[i].toNat ∧ s[i].toNat ≤ 224) :
    Calls Try.prog 22 #[.string s, .int .i64 i] w fun e w' => e = .returned (.int .i64 ((Utf8.decode s i).2 : Nat)) ∧ w' = w := by
  unfold maxLen at hm
  have HC : Hid (Cls (s[i]'hi).toNat 2 160 191) := by unfold Hid Cls; omega
  have h1 : (224 : Int) ≤ (s[i].toNat : Int) := by omega
  have h2 : (s[i].toNat : Int) ≤ 224 := by omega
  have q224 : ((s[i].toNat : Int) == 224) = true := by simp; omega
  have q237 : ((s[i].toNat : Int) == 237) = false := by simp; omega
  have q238 : ((s[i].toNat : Int) == 238) = false := by simp; omega
  have q239 : ((s[i].toNat : Int) == 239) = false := by simp; omega
  have q240 : ((s[i].toNat : Int) == 240) = false := by simp; omega
  have q244 : ((s[i].toNat : Int) == 244) = false := by simp; omega
  clear h
  go_enter Try.func22, Try.ntmps22
  go_wp2
  · go_ret
    exact ⟨fin_short hi HC.out (by omega), rfl⟩
  · go_ret
    exact ⟨fin_first hi HC.out (by omega) (by assumption), rfl⟩
  · go_loop [9, 10] (fun c j => ∃ (k x : Nat), 2 ≤ k ∧ k ≤ 4 ∧ c = .int .u8 x ∧ j = .int .i64 k ∧ Hid (∀ m, 2 ≤ m → m < k → ∀ h2 : i + m < s.size, (128 : Int) ≤ (s[i + m]'h2).toNat ∧ ((s[i + m]'h2).toNat : Int) ≤ 191)) (fun _ j => (5 - intOf j).toNat)
    case atStart => exact ⟨2, _, by omega, by omega, rfl, rfl, fun m a b => by omega⟩
    case round =>
      obtain ⟨k, x, hk1, hk2, rfl, rfl, hr⟩ := hrel
      go_wp2
      · go_ret
        exact ⟨fin_later hi HC.out hk1 (by omega) (by omega) (by assumption), rfl⟩
      · go_round
        case rel => exact ⟨k + 1, _, by omega, by omega, rfl, by go_num, cont_step hr.out (by assumption)⟩
        case measure => simp [intOf]; omega
      · go_ret
        exact ⟨fin_later hi HC.out hk1 (by omega) (by omega) (Or.inl (by assumption)), rfl⟩
      · go_ret
        exact ⟨fin_whole hi HC.out (by omega) (by omega) (by assumption) (fun m a b => hr.out m a (by omega)) rfl, rfl⟩
  · go_ret
    exact ⟨fin_first hi HC.out (by omega) (Or.inl (by assumption)), rfl⟩

set_option maxRecDepth 100000 in
set_option maxHeartbeats 1000000 in
theorem width_225 (s : ByteArray) (i : Nat) (w : World) (hm : s.size ≤ maxLen) (hi : i < s.size) (h : 225 ≤ s[i].toNat ∧ s[i].toNat ≤ 236) :
    Calls Try.prog 22 #[.string s, .int .i64 i] w fun e w' => e = .returned (.int .i64 ((Utf8.decode s i).2 : Nat)) ∧ w' = w := by
  unfold maxLen at hm
  have HC : Hid (Cls (s[i]'hi).toNat 2 128 191) := by unfold Hid Cls; omega
  have h1 : (225 : Int) ≤ (s[i].toNat : Int) := by omega
  have h2 : (s[i].toNat : Int) ≤ 236 := by omega
  have q224 : ((s[i].toNat : Int) == 224) = false := by simp; omega
  have q237 : ((s[i].toNat : Int) == 237) = false := by simp; omega
  have q238 : ((s[i].toNat : Int) == 238) = false := by simp; omega
  have q239 : ((s[i].toNat : Int) == 239) = false := by simp; omega
  have q240 : ((s[i].toNat : Int) == 240) = false := by simp; omega
  have q244 : ((s[i].toNat : Int) == 244) = false := by simp; omega
  clear h
  go_enter Try.func22, Try.ntmps22
  go_wp2
  · go_ret
    exact ⟨fin_short hi HC.out (by omega), rfl⟩
  · go_ret
    exact ⟨fin_first hi HC.out (by omega) (by assumption), rfl⟩
  · go_loop [9, 10] (fun c j => ∃ (k x : Nat), 2 ≤ k ∧ k ≤ 4 ∧ c = .int .u8 x ∧ j = .int .i64 k ∧ Hid (∀ m, 2 ≤ m → m < k → ∀ h2 : i + m < s.size, (128 : Int) ≤ (s[i + m]'h2).toNat ∧ ((s[i + m]'h2).toNat : Int) ≤ 191)) (fun _ j => (5 - intOf j).toNat)
    case atStart => exact ⟨2, _, by omega, by omega, rfl, rfl, fun m a b => by omega⟩
    case round =>
      obtain ⟨k, x, hk1, hk2, rfl, rfl, hr⟩ := hrel
      go_wp2
      · go_ret
        exact ⟨fin_later hi HC.out hk1 (by omega) (by omega) (by assumption), rfl⟩
      · go_round
        case rel => exact ⟨k + 1, _, by omega, by omega, rfl, by go_num, cont_step hr.out (by assumption)⟩
        case measure => simp [intOf]; omega
      · go_ret
        exact ⟨fin_later hi HC.out hk1 (by omega) (by omega) (Or.inl (by assumption)), rfl⟩
      · go_ret
        exact ⟨fin_whole hi HC.out (by omega) (by omega) (by assumption) (fun m a b => hr.out m a (by omega)) rfl, rfl⟩
  · go_ret
    exact ⟨fin_first hi HC.out (by omega) (Or.inl (by assumption)), rfl⟩

set_option maxRecDepth 100000 in
set_option maxHeartbeats 1000000 in
theorem width_237 (s : ByteArray) (i : Nat) (w : World) (hm : s.size ≤ maxLen) (hi : i < s.size) (h : 237 ≤ s[i].toNat ∧ s[i].toNat ≤ 237) :
    Calls Try.prog 22 #[.string s, .int .i64 i] w fun e w' => e = .returned (.int .i64 ((Utf8.decode s i).2 : Nat)) ∧ w' = w := by
  unfold maxLen at hm
  have HC : Hid (Cls (s[i]'hi).toNat 2 128 159) := by unfold Hid Cls; omega
  have h1 : (237 : Int) ≤ (s[i].toNat : Int) := by omega
  have h2 : (s[i].toNat : Int) ≤ 237 := by omega
  have q224 : ((s[i].toNat : Int) == 224) = false := by simp; omega
  have q237 : ((s[i].toNat : Int) == 237) = true := by simp; omega
  have q238 : ((s[i].toNat : Int) == 238) = false := by simp; omega
  have q239 : ((s[i].toNat : Int) == 239) = false := by simp; omega
  have q240 : ((s[i].toNat : Int) == 240) = false := by simp; omega
  have q244 : ((s[i].toNat : Int) == 244) = false := by simp; omega
  clear h
  go_enter Try.func22, Try.ntmps22
  go_wp2
  · go_ret
    exact ⟨fin_short hi HC.out (by omega), rfl⟩
  · go_ret
    exact ⟨fin_first hi HC.out (by omega) (by assumption), rfl⟩
  · go_loop [9, 10] (fun c j => ∃ (k x : Nat), 2 ≤ k ∧ k ≤ 4 ∧ c = .int .u8 x ∧ j = .int .i64 k ∧ Hid (∀ m, 2 ≤ m → m < k → ∀ h2 : i + m < s.size, (128 : Int) ≤ (s[i + m]'h2).toNat ∧ ((s[i + m]'h2).toNat : Int) ≤ 191)) (fun _ j => (5 - intOf j).toNat)
    case atStart => exact ⟨2, _, by omega, by omega, rfl, rfl, fun m a b => by omega⟩
    case round =>
      obtain ⟨k, x, hk1, hk2, rfl, rfl, hr⟩ := hrel
      go_wp2
      · go_ret
        exact ⟨fin_later hi HC.out hk1 (by omega) (by omega) (by assumption), rfl⟩
      · go_round
        case rel => exact ⟨k + 1, _, by omega, by omega, rfl, by go_num, cont_step hr.out (by assumption)⟩
        case measure => simp [intOf]; omega
      · go_ret
        exact ⟨fin_later hi HC.out hk1 (by omega) (by omega) (Or.inl (by assumption)), rfl⟩
      · go_ret
        exact ⟨fin_whole hi HC.out (by omega) (by omega) (by assumption) (fun m a b => hr.out m a (by omega)) rfl, rfl⟩
  · go_ret
    exact ⟨fin_first hi HC.out (by omega) (Or.inl (by assumption)), rfl⟩

set_option maxRecDepth 100000 in
set_option maxHeartbeats 1000000 in
theorem width_238 (s : ByteArray) (i : Nat) (w : World) (hm : s.size ≤ maxLen) (hi : i < s.size) (h : 238 ≤ s[i].toNat ∧ s[i].toNat ≤ 238) :
    Calls Try.prog 22 #[.string s, .int .i64 i] w fun e w' => e = .returned (.int .i64 ((Utf8.decode s i).2 : Nat)) ∧ w' = w := by
  unfold maxLen at hm
  have HC : Hid (Cls (s[i]'hi).toNat 2 128 191) := by unfold Hid Cls; omega
  have h1 : (238 : Int) ≤ (s[i].toNat : Int) := by omega
  have h2 : (s[i].toNat : Int) ≤ 238 := by omega
  have q224 : ((s[i].toNat : Int) == 224) = false := by simp; omega
  have q237 : ((s[i].toNat : Int) == 237) = false := by simp; omega
  have q238 : ((s[i].toNat : Int) == 238) = true := by simp; omega
  have q239 : ((s[i].toNat : Int) == 239) = false := by simp; omega
  have q240 : ((s[i].toNat : Int) == 240) = false := by simp; omega
  have q244 : ((s[i].toNat : Int) == 244) = false := by simp; omega
  clear h
  go_enter Try.func22, Try.ntmps22
  go_wp2
  · go_ret
    exact ⟨fin_short hi HC.out (by omega), rfl⟩
  · go_ret
    exact ⟨fin_first hi HC.out (by omega) (by assumption), rfl⟩
  · go_loop [9, 10] (fun c j => ∃ (k x : Nat), 2 ≤ k ∧ k ≤ 4 ∧ c = .int .u8 x ∧ j = .int .i64 k ∧ Hid (∀ m, 2 ≤ m → m < k → ∀ h2 : i + m < s.size, (128 : Int) ≤ (s[i + m]'h2).toNat ∧ ((s[i + m]'h2).toNat : Int) ≤ 191)) (fun _ j => (5 - intOf j).toNat)
    case atStart => exact ⟨2, _, by omega, by omega, rfl, rfl, fun m a b => by omega⟩
    case round =>
      obtain ⟨k, x, hk1, hk2, rfl, rfl, hr⟩ := hrel
      go_wp2
      · go_ret
        exact ⟨fin_later hi HC.out hk1 (by omega) (by omega) (by assumption), rfl⟩
      · go_round
        case rel => exact ⟨k + 1, _, by omega, by omega, rfl, by go_num, cont_step hr.out (by assumption)⟩
        case measure => simp [intOf]; omega
      · go_ret
        exact ⟨fin_later hi HC.out hk1 (by omega) (by omega) (Or.inl (by assumption)), rfl⟩
      · go_ret
        exact ⟨fin_whole hi HC.out (by omega) (by omega) (by assumption) (fun m a b => hr.out m a (by omega)) rfl, rfl⟩
  · go_ret
    exact ⟨fin_first hi HC.out (by omega) (Or.inl (by assumption)), rfl⟩

set_option maxRecDepth 100000 in
set_option maxHeartbeats 1000000 in
theorem width_239 (s : ByteArray) (i : Nat) (w : World) (hm : s.size ≤ maxLen) (hi : i < s.size) (h : 239 ≤ s[i].toNat ∧ s[i].toNat ≤ 239) :
    Calls Try.prog 22 #[.string s, .int .i64 i] w fun e w' => e = .returned (.int .i64 ((Utf8.decode s i).2 : Nat)) ∧ w' = w := by
  unfold maxLen at hm
  have HC : Hid (Cls (s[i]'hi).toNat 2 128 191) := by unfold Hid Cls; omega
  have h1 : (239 : Int) ≤ (s[i].toNat : Int) := by omega
  have h2 : (s[i].toNat : Int) ≤ 239 := by omega
  have q224 : ((s[i].toNat : Int) == 224) = false := by simp; omega
  have q237 : ((s[i].toNat : Int) == 237) = false := by simp; omega
  have q238 : ((s[i].toNat : Int) == 238) = false := by simp; omega
  have q239 : ((s[i].toNat : Int) == 239) = true := by simp; omega
  have q240 : ((s[i].toNat : Int) == 240) = false := by simp; omega
  have q244 : ((s[i].toNat : Int) == 244) = false := by simp; omega
  clear h
  go_enter Try.func22, Try.ntmps22
  go_wp2
  · go_ret
    exact ⟨fin_short hi HC.out (by omega), rfl⟩
  · go_ret
    exact ⟨fin_first hi HC.out (by omega) (by assumption), rfl⟩
  · go_loop [9, 10] (fun c j => ∃ (k x : Nat), 2 ≤ k ∧ k ≤ 4 ∧ c = .int .u8 x ∧ j = .int .i64 k ∧ Hid (∀ m, 2 ≤ m → m < k → ∀ h2 : i + m < s.size, (128 : Int) ≤ (s[i + m]'h2).toNat ∧ ((s[i + m]'h2).toNat : Int) ≤ 191)) (fun _ j => (5 - intOf j).toNat)
    case atStart => exact ⟨2, _, by omega, by omega, rfl, rfl, fun m a b => by omega⟩
    case round =>
      obtain ⟨k, x, hk1, hk2, rfl, rfl, hr⟩ := hrel
      go_wp2
      · go_ret
        exact ⟨fin_later hi HC.out hk1 (by omega) (by omega) (by assumption), rfl⟩
      · go_round
        case rel => exact ⟨k + 1, _, by omega, by omega, rfl, by go_num, cont_step hr.out (by assumption)⟩
        case measure => simp [intOf]; omega
      · go_ret
        exact ⟨fin_later hi HC.out hk1 (by omega) (by omega) (Or.inl (by assumption)), rfl⟩
      · go_ret
        exact ⟨fin_whole hi HC.out (by omega) (by omega) (by assumption) (fun m a b => hr.out m a (by omega)) rfl, rfl⟩
  · go_ret
    exact ⟨fin_first hi HC.out (by omega) (Or.inl (by assumption)), rfl⟩

set_option maxRecDepth 100000 in
set_option maxHeartbeats 1000000 in
theorem width_240 (s : ByteArray) (i : Nat) (w : World) (hm : s.size ≤ maxLen) (hi : i < s.size) (h : 240 ≤ s[i].toNat ∧ s[i].toNat ≤ 240) :
    Calls Try.prog 22 #[.string s, .int .i64 i] w fun e w' => e = .returned (.int .i64 ((Utf8.decode s i).2 : Nat)) ∧ w' = w := by
  unfold maxLen at hm
  have HC : Hid (Cls (s[i]'hi).toNat 3 144 191) := by unfold Hid Cls; omega
  have h1 : (240 : Int) ≤ (s[i].toNat : Int) := by omega
  have h2 : (s[i].toNat : Int) ≤ 240 := by omega
  have q224 : ((s[i].toNat : Int) == 224) = false := by simp; omega
  have q237 : ((s[i].toNat : Int) == 237) = false := by simp; omega
  have q238 : ((s[i].toNat : Int) == 238) = false := by simp; omega
  have q239 : ((s[i].toNat : Int) == 239) = false := by simp; omega
  have q240 : ((s[i].toNat : Int) == 240) = true := by simp; omega
  have q244 : ((s[i].toNat : Int) == 244) = false := by simp; omega
  clear h
  go_enter Try.func22, Try.ntmps22
  go_wp2
  · go_ret
    exact ⟨fin_short hi HC.out (by omega), rfl⟩
  · go_ret
    exact ⟨fin_first hi HC.out (by omega) (by assumption), rfl⟩
  · go_loop [9, 10] (fun c j => ∃ (k x : Nat), 2 ≤ k ∧ k ≤ 4 ∧ c = .int .u8 x ∧ j = .int .i64 k ∧ Hid (∀ m, 2 ≤ m → m < k → ∀ h2 : i + m < s.size, (128 : Int) ≤ (s[i + m]'h2).toNat ∧ ((s[i + m]'h2).toNat : Int) ≤ 191)) (fun _ j => (5 - intOf j).toNat)
    case atStart => exact ⟨2, _, by omega, by omega, rfl, rfl, fun m a b => by omega⟩
    case round =>
      obtain ⟨k, x, hk1, hk2, rfl, rfl, hr⟩ := hrel
      go_wp2
      · go_ret
        exact ⟨fin_later hi HC.out hk1 (by omega) (by omega) (by assumption), rfl⟩
      · go_round
        case rel => exact ⟨k + 1, _, by omega, by omega, rfl, by go_num, cont_step hr.out (by assumption)⟩
        case measure => simp [intOf]; omega
      · go_ret
        exact ⟨fin_later hi HC.out hk1 (by omega) (by omega) (Or.inl (by assumption)), rfl⟩
      · go_ret
        exact ⟨fin_whole hi HC.out (by omega) (by omega) (by assumption) (fun m a b => hr.out m a (by omega)) rfl, rfl⟩
  · go_ret
    exact ⟨fin_first hi HC.out (by omega) (Or.inl (by assumption)), rfl⟩

set_option maxRecDepth 100000 in
set_option maxHeartbeats 1000000 in
theorem width_241 (s : ByteArray) (i : Nat) (w : World) (hm : s.size ≤ maxLen) (hi : i < s.size) (h : 241 ≤ s[i].toNat ∧ s[i].toNat ≤ 243) :
    Calls Try.prog 22 #[.string s, .int .i64 i] w fun e w' => e = .returned (.int .i64 ((Utf8.decode s i).2 : Nat)) ∧ w' = w := by
  unfold maxLen at hm
  have HC : Hid (Cls (s[i]'hi).toNat 3 128 191) := by unfold Hid Cls; omega
  have h1 : (241 : Int) ≤ (s[i].toNat : Int) := by omega
  have h2 : (s[i].toNat : Int) ≤ 243 := by omega
  have q224 : ((s[i].toNat : Int) == 224) = false := by simp; omega
  have q237 : ((s[i].toNat : Int) == 237) = false := by simp; omega
  have q238 : ((s[i].toNat : Int) == 238) = false := by simp; omega
  have q239 : ((s[i].toNat : Int) == 239) = false := by simp; omega
  have q240 : ((s[i].toNat : Int) == 240) = false := by simp; omega
  have q244 : ((s[i].toNat : Int) == 244) = false := by simp; omega
  clear h
  go_enter Try.func22, Try.ntmps22
  go_wp2
  · go_ret
    exact ⟨fin_short hi HC.out (by omega), rfl⟩
  · go_ret
    exact ⟨fin_first hi HC.out (by omega) (by assumption), rfl⟩
  · go_loop [9, 10] (fun c j => ∃ (k x : Nat), 2 ≤ k ∧ k ≤ 4 ∧ c = .int .u8 x ∧ j = .int .i64 k ∧ Hid (∀ m, 2 ≤ m → m < k → ∀ h2 : i + m < s.size, (128 : Int) ≤ (s[i + m]'h2).toNat ∧ ((s[i + m]'h2).toNat : Int) ≤ 191)) (fun _ j => (5 - intOf j).toNat)
    case atStart => exact ⟨2, _, by omega, by omega, rfl, rfl, fun m a b => by omega⟩
    case round =>
      obtain ⟨k, x, hk1, hk2, rfl, rfl, hr⟩ := hrel
      go_wp2
      · go_ret
        exact ⟨fin_later hi HC.out hk1 (by omega) (by omega) (by assumption), rfl⟩
      · go_round
        case rel => exact ⟨k + 1, _, by omega, by omega, rfl, by go_num, cont_step hr.out (by assumption)⟩
        case measure => simp [intOf]; omega
      · go_ret
        exact ⟨fin_later hi HC.out hk1 (by omega) (by omega) (Or.inl (by assumption)), rfl⟩
      · go_ret
        exact ⟨fin_whole hi HC.out (by omega) (by omega) (by assumption) (fun m a b => hr.out m a (by omega)) rfl, rfl⟩
  · go_ret
    exact ⟨fin_first hi HC.out (by omega) (Or.inl (by assumption)), rfl⟩

set_option maxRecDepth 100000 in
set_option maxHeartbeats 1000000 in
theorem width_244 (s : ByteArray) (i : Nat) (w : World) (hm : s.size ≤ maxLen) (hi : i < s.size) (h : 244 ≤ s[i].toNat ∧ s[i].toNat ≤ 244) :
    Calls Try.prog 22 #[.string s, .int .i64 i] w fun e w' => e = .returned (.int .i64 ((Utf8.decode s i).2 : Nat)) ∧ w' = w := by
  unfold maxLen at hm
  have HC : Hid (Cls (s[i]'hi).toNat 3 128 143) := by unfold Hid Cls; omega
  have h1 : (244 : Int) ≤ (s[i].toNat : Int) := by omega
  have h2 : (s[i].toNat : Int) ≤ 244 := by omega
  have q224 : ((s[i].toNat : Int) == 224) = false := by simp; omega
  have q237 : ((s[i].toNat : Int) == 237) = false := by simp; omega
  have q238 : ((s[i].toNat : Int) == 238) = false := by simp; omega
  have q239 : ((s[i].toNat : Int) == 239) = false := by simp; omega
  have q240 : ((s[i].toNat : Int) == 240) = false := by simp; omega
  have q244 : ((s[i].toNat : Int) == 244) = true := by simp; omega
  clear h
  go_enter Try.func22, Try.ntmps22
  go_wp2
  · go_ret
    exact ⟨fin_short hi HC.out (by omega), rfl⟩
  · go_ret
    exact ⟨fin_first hi HC.out (by omega) (by assumption), rfl⟩
  · go_loop [9, 10] (fun c j => ∃ (k x : Nat), 2 ≤ k ∧ k ≤ 4 ∧ c = .int .u8 x ∧ j = .int .i64 k ∧ Hid (∀ m, 2 ≤ m → m < k → ∀ h2 : i + m < s.size, (128 : Int) ≤ (s[i + m]'h2).toNat ∧ ((s[i + m]'h2).toNat : Int) ≤ 191)) (fun _ j => (5 - intOf j).toNat)
    case atStart => exact ⟨2, _, by omega, by omega, rfl, rfl, fun m a b => by omega⟩
    case round =>
      obtain ⟨k, x, hk1, hk2, rfl, rfl, hr⟩ := hrel
      go_wp2
      · go_ret
        exact ⟨fin_later hi HC.out hk1 (by omega) (by omega) (by assumption), rfl⟩
      · go_round
        case rel => exact ⟨k + 1, _, by omega, by omega, rfl, by go_num, cont_step hr.out (by assumption)⟩
        case measure => simp [intOf]; omega
      · go_ret
        exact ⟨fin_later hi HC.out hk1 (by omega) (by omega) (Or.inl (by assumption)), rfl⟩
      · go_ret
        exact ⟨fin_whole hi HC.out (by omega) (by omega) (by assumption) (fun m a b => hr.out m a (by omega)) rfl, rfl⟩
  · go_ret
    exact ⟨fin_first hi HC.out (by omega) (Or.inl (by assumption)), rfl⟩

/-- 'utf8WidthB1' is the width of Go's own decoding. -/
theorem width_any (s : ByteArray) (i : Nat) (w : World) (hm : s.size ≤ maxLen) (hi : i < s.size) :
    Calls Try.prog 22 #[.string s, .int .i64 i] w fun e w' => e = .returned (.int .i64 ((Utf8.decode s i).2 : Nat)) ∧ w' = w := by
  have hb := s[i].toNat_lt
  have hcls : s[i].toNat < 128 ∨ (128 ≤ s[i].toNat ∧ s[i].toNat ≤ 193) ∨ (245 ≤ s[i].toNat ∧ s[i].toNat ≤ 255) ∨ (194 ≤ s[i].toNat ∧ s[i].toNat ≤ 223) ∨ (224 ≤ s[i].toNat ∧ s[i].toNat ≤ 224) ∨ (225 ≤ s[i].toNat ∧ s[i].toNat ≤ 236) ∨ (237 ≤ s[i].toNat ∧ s[i].toNat ≤ 237) ∨ (238 ≤ s[i].toNat ∧ s[i].toNat ≤ 238) ∨ (239 ≤ s[i].toNat ∧ s[i].toNat ≤ 239) ∨ (240 ≤ s[i].toNat ∧ s[i].toNat ≤ 240) ∨ (241 ≤ s[i].toNat ∧ s[i].toNat ≤ 243) ∨ (244 ≤ s[i].toNat ∧ s[i].toNat ≤ 244) := by omega
  rcases hcls with h | h | h | h | h | h | h | h | h | h | h | h
  · exact width_ascii s i w hi h
  · exact width_low s i w hi h
  · exact width_high s i w hi h
  · exact width_194 s i w hm hi h
  · exact width_224 s i w hm hi h
  · exact width_225 s i w hm hi h
  · exact width_237 s i w hm hi h
  · exact width_238 s i w hm hi h
  · exact width_239 s i w hm hi h
  · exact width_240 s i w hm hi h
  · exact width_241 s i w hm hi h
  · exact width_244 s i w hm hi h

end Go.Proofs.Qxb6600041a.Longer
