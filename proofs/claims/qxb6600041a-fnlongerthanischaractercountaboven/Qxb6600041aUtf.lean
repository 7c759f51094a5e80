/-
  PLAIN: the width of Go's own decoding ('Utf8.decode') by the acceptance table that the Go text writes out. No Go text here.
-/
import Derived.Laws.RangeAny
namespace Go.Proofs.Qxb6600041a.Utf

/-- The row of the acceptance table: the first byte 'b' asks for 'need' more, the first of them from 'lo' to 'hi'. -/
def Cls (b need lo hi : Nat) : Prop :=
  (194 ≤ b ∧ b ≤ 223 ∧ need = 1 ∧ lo = 128 ∧ hi = 191) ∨ (b = 224 ∧ need = 2 ∧ lo = 160 ∧ hi = 191) ∨ (225 ≤ b ∧ b ≤ 236 ∧ need = 2 ∧ lo = 128 ∧ hi = 191)
  ∨ (b = 237 ∧ need = 2 ∧ lo = 128 ∧ hi = 159) ∨ (238 ≤ b ∧ b ≤ 239 ∧ need = 2 ∧ lo = 128 ∧ hi = 191) ∨ (b = 240 ∧ need = 3 ∧ lo = 144 ∧ hi = 191)
  ∨ (241 ≤ b ∧ b ≤ 243 ∧ need = 3 ∧ lo = 128 ∧ hi = 191) ∨ (b = 244 ∧ need = 3 ∧ lo = 128 ∧ hi = 143)

/-- The width over plain numbers: 'n' bytes are left, the first four are these. -/
def W (n b0 b1 b2 b3 : Nat) : Nat :=
  if b0 < 128 then 1
  else if b0 / 32 = 6 ∧ 1 < n ∧ b1 / 64 = 2 then (if 128 ≤ b0 % 32 * 64 + b1 % 64 then 2 else 1)
  else if b0 / 16 = 14 ∧ 1 < n ∧ b1 / 64 = 2 ∧ 2 < n ∧ b2 / 64 = 2 then
    (if 2048 ≤ b0 % 16 * 4096 + b1 % 64 * 64 + b2 % 64 ∧ (b0 % 16 * 4096 + b1 % 64 * 64 + b2 % 64 < 55296 ∨ 57344 ≤ b0 % 16 * 4096 + b1 % 64 * 64 + b2 % 64 ∧ b0 % 16 * 4096 + b1 % 64 * 64 + b2 % 64 ≤ 1114111) then 3 else 1)
  else if b0 / 8 = 30 ∧ 1 < n ∧ b1 / 64 = 2 ∧ 2 < n ∧ b2 / 64 = 2 ∧ 3 < n ∧ b3 / 64 = 2 then
    (if 65536 ≤ b0 % 8 * 262144 + b1 % 64 * 4096 + b2 % 64 * 64 + b3 % 64 ∧ (b0 % 8 * 262144 + b1 % 64 * 4096 + b2 % 64 * 64 + b3 % 64 < 55296 ∨ 57344 ≤ b0 % 8 * 262144 + b1 % 64 * 4096 + b2 % 64 * 64 + b3 % 64 ∧ b0 % 8 * 262144 + b1 % 64 * 4096 + b2 % 64 * 64 + b3 % 64 ≤ 1114111) then 4 else 1)
  else 1

theorem valid_nat (c : Nat) : Utf8.valid (c : Int) = decide (c < 55296 ∨ 57344 ≤ c ∧ c ≤ 1114111) := by
  unfold Utf8.valid
  rw [Bool.eq_iff_iff]
  simp
  omega

theorem decode_W (s : ByteArray) (i : Nat) :
    (Utf8.decode s i).2 = W (s.size - i) (s.get! (i + 0)).toNat (s.get! (i + 1)).toNat (s.get! (i + 2)).toNat (s.get! (i + 3)).toNat := by
  have e : ∀ k, (i + k < s.size) ↔ (k < s.size - i) := fun k => by omega
  unfold Utf8.decode W
  simp only [e, valid_nat, apply_ite Prod.snd, Bool.and_eq_true, beq_iff_eq, decide_eq_true_eq, ge_iff_le, and_assoc]

theorem W_ascii (n b0 b1 b2 b3 : Nat) (h : b0 < 128) : W n b0 b1 b2 b3 = 1 := by unfold W; rw [if_pos h]
theorem W_none (n b0 b1 b2 b3 : Nat) (h1 : b1 < 256) (h : 128 ≤ b0 ∧ b0 < 194 ∨ 244 < b0) : W n b0 b1 b2 b3 = 1 := by
  unfold W
  rw [if_neg (by omega)]
  split
  · rw [if_neg (by omega)]
  split
  · rw [if_neg (by omega)]
  split
  · rw [if_neg (by omega)]
  rfl
theorem W_short (n b0 b1 b2 b3 need lo hi : Nat) (hc : Cls b0 need lo hi) (h : n ≤ need) : W n b0 b1 b2 b3 = 1 := by
  unfold Cls at hc
  unfold W
  rw [if_neg (by omega), if_neg (by omega), if_neg (by omega), if_neg (by omega)]
theorem W_first (n b0 b1 b2 b3 need lo hi : Nat) (hc : Cls b0 need lo hi) (h1 : b1 < 256) (h : b1 < lo ∨ hi < b1) : W n b0 b1 b2 b3 = 1 := by
  unfold Cls at hc
  unfold W
  rw [if_neg (by omega)]
  split
  · rw [if_neg (by omega)]
  split
  · rw [if_neg (by omega)]
  split
  · rw [if_neg (by omega)]
  rfl
theorem W_second (n b0 b1 b2 b3 need lo hi : Nat) (hc : Cls b0 need lo hi) (hn : 2 ≤ need) (h : b2 < 128 ∨ 191 < b2) (h2 : b2 < 256) : W n b0 b1 b2 b3 = 1 := by
  unfold Cls at hc
  unfold W
  rw [if_neg (by omega), if_neg (by omega), if_neg (by omega), if_neg (by omega)]
theorem W_third (n b0 b1 b2 b3 need lo hi : Nat) (hc : Cls b0 need lo hi) (hn : 3 ≤ need) (h : b3 < 128 ∨ 191 < b3) (h2 : b3 < 256) : W n b0 b1 b2 b3 = 1 := by
  unfold Cls at hc
  unfold W
  rw [if_neg (by omega), if_neg (by omega), if_neg (by omega), if_neg (by omega)]
theorem W_whole (n b0 b1 b2 b3 need lo hi : Nat) (hc : Cls b0 need lo hi) (hn : need < n) (h1 : lo ≤ b1 ∧ b1 ≤ hi) (h2 : 2 ≤ need → 128 ≤ b2 ∧ b2 ≤ 191) (h3 : 3 ≤ need → 128 ≤ b3 ∧ b3 ≤ 191) : W n b0 b1 b2 b3 = need + 1 := by
  unfold Cls at hc
  unfold W
  rw [if_neg (by omega)]
  by_cases c1 : need = 1
  · rw [if_pos (by omega), if_pos (by omega), c1]
  rw [if_neg (by omega)]
  by_cases c2 : need = 2
  · rw [if_pos (by omega), if_pos (by omega), c2]
  rw [if_neg (by omega)]
  have c3 : need = 3 := by omega
  rw [if_pos (by omega), if_pos (by omega), c3]

theorem get_k (s : ByteArray) (i k : Nat) (h : i + k < s.size) : s.get! (i + k) = s[i + k]'h := by
  simp [ByteArray.get!, getElem!_pos, h]
  rfl

theorem r1 {s : ByteArray} {i : Nat} (h : (Utf8.decode s i).2 = 1) : Ending.returned (.int .i64 1) = .returned (.int .i64 ((Utf8.decode s i).2 : Nat)) := by rw [h]; rfl

theorem fin_ascii {s : ByteArray} {i : Nat} (hi : i < s.size) (h : ((s[i]'hi).toNat : Int) < 128) : Ending.returned (.int .i64 1) = .returned (.int .i64 ((Utf8.decode s i).2 : Nat)) := by
  refine r1 ?_
  rw [decode_W, W_ascii]
  rw [get_k s i 0 hi]
  show (s[i]'hi).toNat < 128
  omega
theorem fin_none {s : ByteArray} {i : Nat} (hi : i < s.size) (h : 128 ≤ (s[i]'hi).toNat ∧ (s[i]'hi).toNat < 194 ∨ 244 < (s[i]'hi).toNat) : Ending.returned (.int .i64 1) = .returned (.int .i64 ((Utf8.decode s i).2 : Nat)) := by
  refine r1 ?_
  rw [decode_W, W_none _ _ _ _ _ (s.get! (i + 1)).toNat_lt]
  rw [get_k s i 0 hi]
  exact h
theorem fin_short {s : ByteArray} {i need lo hh : Nat} (hi : i < s.size) (hc : Cls (s[i]'hi).toNat need lo hh) (h : (s.size : Int) - i ≤ need) : Ending.returned (.int .i64 1) = .returned (.int .i64 ((Utf8.decode s i).2 : Nat)) := by
  refine r1 ?_
  rw [decode_W, get_k s i 0 hi]
  exact W_short _ _ _ _ _ _ _ _ hc (by omega)
theorem fin_first {s : ByteArray} {i need lo hh : Nat} (hi : i < s.size) (hc : Cls (s[i]'hi).toNat need lo hh) (h1 : i + 1 < s.size) (h : ((s[i + 1]'h1).toNat : Int) < lo ∨ (hh : Int) < (s[i + 1]'h1).toNat) : Ending.returned (.int .i64 1) = .returned (.int .i64 ((Utf8.decode s i).2 : Nat)) := by
  refine r1 ?_
  rw [decode_W, get_k s i 0 hi, get_k s i 1 h1]
  exact W_first _ _ _ _ _ _ _ _ hc (s[i + 1]'h1).toNat_lt (by omega)
theorem fin_later {s : ByteArray} {i need lo hh m : Nat} (hi : i < s.size) (hc : Cls (s[i]'hi).toNat need lo hh) (hm : 2 ≤ m) (hn : m ≤ need) (h1 : i + m < s.size) (h : ((s[i + m]'h1).toNat : Int) < 128 ∨ (191 : Int) < (s[i + m]'h1).toNat) : Ending.returned (.int .i64 1) = .returned (.int .i64 ((Utf8.decode s i).2 : Nat)) := by
  refine r1 ?_
  have : m = 2 ∨ m = 3 := by unfold Cls at hc; omega
  rcases this with rfl | rfl
  · rw [decode_W, get_k s i 0 hi, get_k s i 2 h1]
    exact W_second _ _ _ _ _ _ _ _ hc hn (by omega) (s[i + 2]'h1).toNat_lt
  · rw [decode_W, get_k s i 0 hi, get_k s i 3 h1]
    exact W_third _ _ _ _ _ _ _ _ hc hn (by omega) (s[i + 3]'h1).toNat_lt
theorem whole {s : ByteArray} {i need lo hh : Nat} (hi : i < s.size) (hc : Cls (s[i]'hi).toNat need lo hh) (hn : i + need < s.size) (h1 : i + 1 < s.size) (h : (lo : Int) ≤ (s[i + 1]'h1).toNat ∧ ((s[i + 1]'h1).toNat : Int) ≤ hh)
    (hr : ∀ m, 2 ≤ m → m ≤ need → ∀ h2 : i + m < s.size, (128 : Int) ≤ (s[i + m]'h2).toNat ∧ ((s[i + m]'h2).toNat : Int) ≤ 191) : (Utf8.decode s i).2 = need + 1 := by
  rw [decode_W, get_k s i 0 hi, get_k s i 1 h1]
  refine W_whole _ _ _ _ _ _ _ _ hc (by omega) (by omega) (fun g => ?_) (fun g => ?_)
  · have := hr 2 (by omega) g (by omega)
    rw [get_k s i 2 (by omega)]
    omega
  · have := hr 3 (by omega) g (by omega)
    rw [get_k s i 3 (by omega)]
    omega

theorem fin_whole {s : ByteArray} {i need lo hh : Nat} {x : Int} (hi : i < s.size) (hc : Cls (s[i]'hi).toNat need lo hh) (hn : i + need < s.size) (h1 : i + 1 < s.size) (h : (lo : Int) ≤ (s[i + 1]'h1).toNat ∧ ((s[i + 1]'h1).toNat : Int) ≤ hh)
    (hr : ∀ m, 2 ≤ m → m ≤ need → ∀ h2 : i + m < s.size, (128 : Int) ≤ (s[i + m]'h2).toNat ∧ ((s[i + m]'h2).toNat : Int) ≤ 191) (hx : x = ((need + 1 : Nat) : Int)) : Ending.returned (.int .i64 x) = .returned (.int .i64 ((Utf8.decode s i).2 : Nat)) := by
  rw [whole hi hc hn h1 h hr, hx]
theorem cont_step {s : ByteArray} {i k : Nat} (hr : ∀ m, 2 ≤ m → m < k → ∀ h2 : i + m < s.size, (128 : Int) ≤ (s[i + m]'h2).toNat ∧ ((s[i + m]'h2).toNat : Int) ≤ 191) {hk : i + k < s.size} (h : (128 : Int) ≤ (s[i + k]'hk).toNat ∧ ((s[i + k]'hk).toNat : Int) ≤ 191) :
    ∀ m, 2 ≤ m → m < k + 1 → ∀ h2 : i + m < s.size, (128 : Int) ≤ (s[i + m]'h2).toNat ∧ ((s[i + m]'h2).toNat : Int) ≤ 191 := by
  intro m h2 h3 h4
  by_cases e : m = k
  · subst e; exact h
  · exact hr m h2 (by omega) h4

/-- The width is at least one and stays inside the text. -/
theorem width_bounds (s : ByteArray) (i : Nat) (h : i < s.size) : 1 ≤ (Utf8.decode s i).2 ∧ i + (Utf8.decode s i).2 ≤ s.size := by
  rw [decode_W]
  unfold W
  split
  · omega
  split
  · split <;> omega
  split
  · split <;> omega
  split
  · split <;> omega
  omega

/-- The characters of what lies from 'i' on ('f': fuel). -/
def cnt (s : ByteArray) : Nat → Nat → Nat
  | 0, _ => 0
  | f + 1, i => if i < s.size then 1 + cnt s f (i + (Utf8.decode s i).2) else 0

theorem cnt_end (s : ByteArray) (f i : Nat) (h : s.size ≤ i) : cnt s f i = 0 := by
  cases f with
  | zero => rfl
  | succ f => unfold cnt; rw [if_neg (by omega)]
theorem cnt_step (s : ByteArray) (f i : Nat) (h : i < s.size) : cnt s (f + 1) i = 1 + cnt s f (i + (Utf8.decode s i).2) := by
  rw [cnt, if_pos h]
theorem cnt_le (s : ByteArray) : ∀ f i, cnt s f i ≤ s.size - i
  | 0, _ => Nat.zero_le _
  | f + 1, i => by
    unfold cnt
    split
    · rename_i h
      have := cnt_le s f (i + (Utf8.decode s i).2)
      have := width_bounds s i h
      omega
    · omega
theorem cnt_fuel (s : ByteArray) : ∀ f g i, s.size ≤ i + f → s.size ≤ i + g → cnt s f i = cnt s g i
  | 0, g, i, hf, _ => by rw [cnt_end s g i (by omega)]; rfl
  | f + 1, 0, i, _, hg => by rw [cnt_end s (f + 1) i (by omega)]; rfl
  | f + 1, g + 1, i, hf, hg => by
    unfold cnt
    split
    · rename_i h
      have := width_bounds s i h
      rw [cnt_fuel s f g _ (by omega) (by omega)]
    · rfl
/-- The number of characters. -/
def count (s : ByteArray) : Nat := cnt s s.size 0
/-- The count from 'i' on. -/
def rest (s : ByteArray) (i : Nat) : Nat := cnt s s.size i
theorem rest_step (s : ByteArray) (i : Nat) (h : i < s.size) : rest s i = 1 + rest s (i + (Utf8.decode s i).2) := by
  unfold rest
  rw [cnt_fuel s s.size (s.size + 1) i (by omega) (by omega), cnt_step s s.size i h]
theorem rest_end (s : ByteArray) (i : Nat) (h : s.size ≤ i) : rest s i = 0 := cnt_end s _ i h
theorem rest_le (s : ByteArray) (i : Nat) : rest s i ≤ s.size - i := cnt_le s _ i
end Go.Proofs.Qxb6600041a.Utf
