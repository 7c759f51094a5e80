/-
  PLAIN: how a key is read back, segment by segment. And the walks of hasByteB1, indexByteB1, tagRankB1.
-/
import Derived.Test.Qxb6600041aKeyLaw
namespace Go.Proofs.Qxb6600041a.Read
open Go.ChangeShapes Go.WideShapes Go.ChangeAt Go.RowKit Go.Proofs.Qxb6600041a.Key

abbrev L (s : ByteArray) : List UInt8 := s.data.toList

/-- What the reader holds: the parts found so far. -/
structure PS where
  first : Bool
  last : Int
  user : ByteArray
  hasRepo : Bool
  owner : ByteArray
  name : ByteArray
  hasRef : Bool
  ref : ByteArray
  hasBP : Bool
  bp : ByteArray
  hasWL : Bool
  kind : ByteArray
  wname : ByteArray
  hasNS : Bool
  ns : ByteArray

/-- One segment read. -/
def Step (p : PS) (S : ByteArray) (q : PS) : Prop :=
  (p.first = true ∧ ∃ U : ByteArray, L S = [117, 61] ++ L U ∧ q = { p with first := false, user := U }) ∨
  (p.first = false ∧ p.last < 1 ∧ ∃ O N : ByteArray, L S = [114, 61] ++ (L O ++ ([47] ++ L N)) ∧ 47 ∉ L O ∧ q = { p with last := 1, hasRepo := true, owner := O, name := N }) ∨
  (p.first = false ∧ p.last < 2 ∧ ∃ R : ByteArray, L S = [114, 101, 102, 61] ++ L R ∧ q = { p with last := 2, hasRef := true, ref := R }) ∨
  (p.first = false ∧ p.last < 3 ∧ ∃ B : ByteArray, L S = [98, 112, 61] ++ L B ∧ q = { p with last := 3, hasBP := true, bp := B }) ∨
  (p.first = false ∧ p.last < 4 ∧ ∃ O N : ByteArray, L S = [119, 111, 114, 107, 108, 111, 97, 100, 61] ++ (L O ++ ([47] ++ L N)) ∧ 47 ∉ L O ∧ q = { p with last := 4, hasWL := true, kind := O, wname := N }) ∨
  (p.first = false ∧ p.last < 5 ∧ ∃ R : ByteArray, L S = [110, 115, 61] ++ L R ∧ q = { p with last := 5, hasNS := true, ns := R })

def Runs : List ByteArray → PS → PS → Prop
  | [], p, f => p = f
  | S :: r, p, f => ∃ q, Step p S q ∧ Runs r q f
theorem runs_append : ∀ (a b : List ByteArray) (p q f : PS), Runs a p q → Runs b q f → Runs (a ++ b) p f
  | [], _, _, _, _, h, k => by cases h; exact k
  | _ :: a, b, _, q, f, ⟨x, h1, h2⟩, k => ⟨x, h1, runs_append a b x q f h2 k⟩

def Tail : List ByteArray → List UInt8
  | [] => []
  | S :: r => 124 :: (L S ++ Tail r)
theorem tail_append : ∀ a b : List ByteArray, Tail (a ++ b) = Tail a ++ Tail b
  | [], _ => rfl
  | S :: a, b => by simp [Tail, tail_append a b]

def Inv (K : ByteArray) (f : PS) (start i : Nat) (p : PS) : Prop :=
  (∃ (pre : List UInt8) (S : ByteArray) (rest : List ByteArray) (t : Nat), L K = pre ++ (L S ++ Tail rest) ∧ start = pre.length ∧ i = start + t ∧ t ≤ S.size ∧ 124 ∉ L S ∧ (∀ x ∈ rest, 124 ∉ L x) ∧ Runs (S :: rest) p f)
  ∨ (i = K.size + 1 ∧ start ≤ i ∧ p = f)

theorem at_list (K : ByteArray) (i : Nat) (h : i < K.size) : some (K[i]'h) = (L K)[i]? := by
  have h' : i < K.data.size := h
  rw [Array.getElem?_toList, Array.getElem?_eq_getElem h']
  rfl
theorem len_list (K : ByteArray) : (L K).length = K.size := by simp [L]

theorem bytes_ext {a b : ByteArray} (h : L a = L b) : a = b := bytes_inj h
theorem L_extract (K : ByteArray) (a b : Nat) : L (K.extract a b) = ((L K).take b).drop a := by
  simp only [L, ByteArray.data_extract, Array.toList_extract, List.take_drop]
  by_cases h : a ≤ b
  · rw [show a + (b - a) = b by omega]
  · rw [List.drop_of_length_le (by simp; omega), List.drop_of_length_le (by simp; omega)]

theorem inv_cases {K : ByteArray} {f p : PS} {start i : Nat} (h : Inv K f start i p) :
    (start ≤ i ∧ Inv K f start (i + 1) p ∧ ∃ hlt : i < K.size, ((K[i]'hlt).toNat : Int) ≠ 124) ∨
    (start ≤ i ∧ i ≤ K.size ∧ (∀ hlt : i < K.size, ((K[i]'hlt).toNat : Int) = 124) ∧ ∃ S q, K.extract start i = S ∧ Step p S q ∧ Inv K f (i + 1) (i + 1) q) ∨
    (i = K.size + 1 ∧ start ≤ i ∧ p = f) := by
  rcases h with ⟨pre, S, rest, t, hK, hs, hi, ht, hS, hrest, hrun⟩ | h
  · have hlen : K.size = pre.length + (S.size + (Tail rest).length) := by
      have := congrArg List.length hK
      simpa [len_list] using this
    have hSl : (L S).length = S.size := len_list S
    by_cases hlt : t < S.size
    · left
      refine ⟨by omega, Or.inl ⟨pre, S, rest, t + 1, hK, hs, by omega, by omega, hS, hrest, hrun⟩, by omega, ?_⟩
      have e := at_list K i (by omega)
      rw [hK, List.getElem?_append_right (by omega), List.getElem?_append_left (by omega)] at e
      have hm : K[i] ∈ L S := List.mem_of_getElem? e.symm
      intro hc
      have : K[i] = 124 := UInt8.toNat_inj.1 (by simpa using Int.ofNat.inj hc)
      rw [this] at hm
      exact hS hm
    · right; left
      have hts : t = S.size := by omega
      obtain ⟨q, hq, hr⟩ := hrun
      refine ⟨by omega, by omega, ?_, S, q, ?_, hq, ?_⟩
      · intro hlt'
        have e := at_list K i hlt'
        rw [hK, List.getElem?_append_right (by omega), List.getElem?_append_right (by omega)] at e
        cases rest with
        | nil => simp [Tail] at hlen; omega
        | cons x r =>
          have : i - pre.length - (L S).length = 0 := by omega
          rw [this] at e
          simp [Tail] at e
          rw [e]; rfl
      · apply bytes_ext
        rw [L_extract, hK, hi, hs, ← List.append_assoc, List.take_append_of_le_length (by simp; omega)]
        rw [List.take_of_length_le (by simp; omega)]
        simp
      · cases rest with
        | nil =>
          right
          simp [Tail] at hlen
          refine ⟨by omega, Nat.le_refl _, ?_⟩
          exact hr
        | cons x r =>
          left
          refine ⟨pre ++ (L S ++ [124]), x, r, 0, ?_, ?_, by omega, Nat.zero_le _, hrest x (by simp), fun y hy => hrest y (by simp [hy]), hr⟩
          · rw [hK]; simp [Tail]
          · simp [hSl]; omega
  · right; right
    exact h

/-! ### What the reader cuts out of a segment -/
theorem cut_tail {S V : ByteArray} {pre : List UInt8} (h : L S = pre ++ L V) : S.extract pre.length S.size = V := by
  apply bytes_ext
  rw [L_extract, ← len_list, List.take_length, h]
  simp
theorem cut_head {S V : ByteArray} {post : List UInt8} (h : L S = L V ++ post) : S.extract 0 V.size = V := by
  apply bytes_ext
  rw [L_extract, h, ← len_list]
  simp
theorem size_of {S V : ByteArray} {pre : List UInt8} (h : L S = pre ++ L V) : S.size = pre.length + V.size := by
  have := congrArg List.length h
  simpa [len_list] using this

/-! ### hasByteB1 -/
def hasB (s : ByteArray) (c : Int) : Bool := (L s).any fun x => (x.toNat : Int) == c
theorem hasB_hit {s : ByteArray} {c : Int} {k : Nat} (h : k < s.size) (hc : (((s[k]'h).toNat : Int) == c) = true) : Ending.returned (.bool true) = .returned (.bool (hasB s c)) := by
  have : hasB s c = true := by
    unfold hasB
    rw [List.any_eq_true]
    exact ⟨s[k], List.mem_of_getElem? (at_list s k h).symm, hc⟩
  rw [this]
theorem hasB_miss {s : ByteArray} {c : Int} (h : ∀ j, ∀ hj : j < s.size, (((s[j]'hj).toNat : Int) == c) = false) : Ending.returned (.bool false) = .returned (.bool (hasB s c)) := by
  have : hasB s c = false := by
    unfold hasB
    rw [List.any_eq_false]
    intro x hx
    obtain ⟨j, hj, rfl⟩ := List.mem_iff_getElem.1 hx
    have hs : j < s.size := by simpa [len_list] using hj
    have e := at_list s j hs
    rw [List.getElem?_eq_getElem hj, Option.some.injEq] at e
    rw [← e]
    have := h j hs
    simpa using this
  rw [this]
theorem hasB_not {s : ByteArray} {c : UInt8} {n : Int} (hn : (c.toNat : Int) = n) (h : hasB s n = false) : c ∉ L s := by
  intro hm
  unfold hasB at h
  rw [List.any_eq_false] at h
  exact h c hm (by simp [hn])

set_option maxRecDepth 100000 in
set_option maxHeartbeats 1000000 in
theorem has_any (s : ByteArray) (c : Int) (w : World) (hm : s.size ≤ 65536) :
    Calls Try.prog 19 #[.string s, .int .u8 c] w fun e w' => e = .returned (.bool (hasB s c)) ∧ w' = w := by
  go_enter Try.func19, Try.ntmps19
  go_wp2
  go_loop [5] (fun i => ∃ k : Nat, k ≤ s.size ∧ i = .int .i64 k ∧ Hid (∀ j, j < k → ∀ hj : j < s.size, (((s[j]'hj).toNat : Int) == c) = false)) (fun i => s.size - (intOf i).toNat)
  case atStart => exact ⟨0, Nat.zero_le _, rfl, fun j hj => by omega⟩
  case round =>
    obtain ⟨k, hk, rfl, hr⟩ := hrel
    by_cases hlt : k < s.size
    · go_wp2
      · go_ret
        exact ⟨hasB_hit hlt (by assumption), rfl⟩
      · go_round
        case rel => exact ⟨k + 1, by omega, by go_num, fun j hj hs => by
          by_cases e : j = k
          · subst e; assumption
          · exact hr.out j (by omega) hs⟩
        case measure => simp [intOf]; omega
    · go_wp2
      go_ret
      exact ⟨hasB_miss (fun j hj => hr.out j (by omega) hj), rfl⟩

/-! ### indexByteB1, where it finds -/
set_option maxRecDepth 100000 in
set_option maxHeartbeats 1000000 in
theorem index_hit (s : ByteArray) (c : Int) (e : Nat) (w : World) (hm : s.size ≤ 1048576) (he : e < s.size) (hc : ((s[e].toNat : Int) == c) = true) (hn : ∀ j, j < e → ∀ hj : j < s.size, (((s[j]'hj).toNat : Int) == c) = false) :
    Calls Try.prog 25 #[.string s, .int .u8 c] w fun x w' => x = .returned (.int .i64 e) ∧ w' = w := by
  have HN : Hid _ := hn
  have HC : Hid _ := hc
  clear hn hc
  go_enter Try.func25, Try.ntmps25
  go_wp2
  go_loop [5] (fun i => ∃ k : Nat, k ≤ e ∧ i = .int .i64 k) (fun i => s.size - (intOf i).toNat)
  case atStart => exact ⟨0, Nat.zero_le _, rfl⟩
  case round =>
    obtain ⟨k, hk, rfl⟩ := hrel
    by_cases hlt : k < e
    · have hx := HN.out k hlt (by omega)
      have hks : k < s.size := by omega
      go_wp2
      go_round
      case rel => exact ⟨k + 1, by omega, by go_num⟩
      case measure => simp [intOf]; omega
    · have hke : k = e := by omega
      subst hke
      have hx := HC.out
      go_wp2
      go_ret
      exact ⟨rfl, rfl⟩
/-- .. by the lists: 'pre', the byte, 'post'. -/
theorem index_at (s : ByteArray) (c : UInt8) (n : Int) (pre post : List UInt8) (w : World) (hcn : (c.toNat : Int) = n) (hm : s.size ≤ 1048576) (h : L s = pre ++ c :: post) (hn : c ∉ pre) (m : Int) (hpm : (pre.length : Int) = m) :
    Calls Try.prog 25 #[.string s, .int .u8 n] w fun x w' => x = .returned (.int .i64 m) ∧ w' = w := by
  subst hpm hcn
  have hlen : s.size = pre.length + (post.length + 1) := by
    have := congrArg List.length h
    simpa [len_list] using this
  refine index_hit s _ pre.length w hm (by omega) ?_ ?_
  · have e := at_list s pre.length (by omega)
    rw [h] at e
    simp at e
    simp [e]
  · intro j hj hs
    have e := at_list s j hs
    rw [h, List.getElem?_append_left hj] at e
    have hm := List.mem_of_getElem? e.symm
    simp only [beq_eq_false_iff_ne, ne_eq]
    intro hc
    have : s[j] = c := UInt8.toNat_inj.1 (Int.ofNat.inj hc)
    rw [this] at hm
    exact hn hm
end Go.Proofs.Qxb6600041a.Read
