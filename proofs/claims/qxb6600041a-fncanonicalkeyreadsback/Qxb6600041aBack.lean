/-
  PLAIN: the key of fields without the separators reads back into the fields.
-/
import Derived.Test.Qxb6600041aRead
namespace Go.Proofs.Qxb6600041a.Read
open Go.ChangeShapes Go.WideShapes Go.ChangeAt Go.RowKit Go.Proofs.Qxb6600041a.Key

def nil : ByteArray := ⟨#[]⟩
theorem eq_nil {a : ByteArray} (h : (L a).isEmpty = true) : a = nil := by
  apply bytes_ext
  rw [List.isEmpty_iff.1 h]
  rfl
def seg (x : List UInt8) : ByteArray := ⟨x.toArray⟩
theorem L_seg (x : List UInt8) : L (seg x) = x := by simp [L, seg]
def segOf (c : Bool) (x : List UInt8) : List ByteArray := if c = true then [seg x] else []
theorem tail_seg (c : Bool) (x : List UInt8) : Tail (segOf c x) = Key.part c (124 :: x) := by
  cases c
  · rfl
  · simp [segOf, Tail, Key.part, L_seg]
theorem runs_seg {c : Bool} {x : List UInt8} {p q : PS} (h1 : c = true → Step p (seg x) q) (h0 : c = false → p = q) : Runs (segOf c x) p q := by
  cases c
  · exact h0 rfl
  · exact ⟨q, h1 rfl, rfl⟩
theorem nobar_seg {c : Bool} {x : List UInt8} (h : c = true → 124 ∉ x) : ∀ y ∈ segOf c x, 124 ∉ L y := by
  cases c
  · intro y hy; cases hy
  · intro y hy
    simp [segOf] at hy
    subst hy
    rw [L_seg]
    exact h rfl

def dR (o n : ByteArray) : Bool := !((L o).isEmpty && (L n).isEmpty)
def dF (r : ByteArray) : Bool := !(L r).isEmpty
/-- What the reader holds in the end. -/
def fin (ex : Bool) (u b o n r ns k wn : ByteArray) : PS :=
  ⟨false, cond (dF ns) 5 (cond (dR k wn) 4 (cond ex 3 (cond (dF r) 2 (cond (dR o n) 1 0)))), u, dR o n, o, n, dF r, r, ex, cond ex b nil, dR k wn, k, wn, dF ns, ns⟩

def start0 : PS := ⟨true, 0, ⟨#[]⟩, false, ⟨#[]⟩, ⟨#[]⟩, false, ⟨#[]⟩, false, ⟨#[]⟩, false, ⟨#[]⟩, ⟨#[]⟩, false, ⟨#[]⟩⟩

theorem notin_append {c : UInt8} {a b : List UInt8} (h1 : c ∉ a) (h2 : c ∉ b) : c ∉ a ++ b := by simp [h1, h2]
theorem dR_false {o n : ByteArray} (h : dR o n = false) : o = nil ∧ n = nil := by
  unfold dR at h
  simp only [Bool.not_eq_false', Bool.and_eq_true] at h
  exact ⟨eq_nil h.1, eq_nil h.2⟩
theorem dF_false {o : ByteArray} (h : dF o = false) : o = nil := by
  unfold dF at h
  simp only [Bool.not_eq_false'] at h
  exact eq_nil h

theorem reads (ex : Bool) (u b o n r ns k wn K : ByteArray) (hK : L K = key ex (L u) (L b) (L o) (L n) (L r) (L ns) (L k) (L wn))
    (h1 : 124 ∉ L u) (h2 : ex = true → 124 ∉ L b) (h3 : 124 ∉ L o) (h4 : 124 ∉ L n) (h5 : 124 ∉ L r) (h7 : 124 ∉ L ns) (h8 : 124 ∉ L k) (h9 : 124 ∉ L wn) (g3 : 47 ∉ L o) (g8 : 47 ∉ L k) :
    Inv K (fin ex u b o n r ns k wn) 0 0 start0 := by
  left
  refine ⟨[], seg ([117, 61] ++ L u), segOf (dR o n) ([114, 61] ++ (L o ++ ([47] ++ L n))) ++ (segOf (dF r) ([114, 101, 102, 61] ++ L r) ++ (segOf ex ([98, 112, 61] ++ L b) ++ (segOf (dR k wn) ([119, 111, 114, 107, 108, 111, 97, 100, 61] ++ (L k ++ ([47] ++ L wn))) ++ segOf (dF ns) ([110, 115, 61] ++ L ns)))), 0, ?_, rfl, rfl, Nat.zero_le _, ?_, ?_, ?_⟩
  · rw [hK, L_seg]
    simp only [tail_append, tail_seg]
    unfold key keyR keyF keyB keyW keyN dR dF
    simp only [List.append_assoc, List.nil_append]
    rfl
  · rw [L_seg]; exact notin_append (by decide) h1
  · intro x hx
    simp only [List.mem_append] at hx
    rcases hx with hx | hx | hx | hx | hx
    · exact nobar_seg (fun _ => notin_append (by decide) (notin_append h3 (notin_append (by decide) h4))) x hx
    · exact nobar_seg (fun _ => notin_append (by decide) h5) x hx
    · exact nobar_seg (fun e => notin_append (by decide) (h2 e)) x hx
    · exact nobar_seg (fun _ => notin_append (by decide) (notin_append h8 (notin_append (by decide) h9))) x hx
    · exact nobar_seg (fun _ => notin_append (by decide) h7) x hx
  · refine ⟨⟨false, 0, u, false, nil, nil, false, nil, false, nil, false, nil, nil, false, nil⟩, Or.inl ⟨rfl, u, L_seg _, rfl⟩, ?_⟩
    refine runs_append _ _ _ ⟨false, cond (dR o n) 1 0, u, dR o n, o, n, false, nil, false, nil, false, nil, nil, false, nil⟩ _ (runs_seg (fun e => ?_) (fun e => ?_)) ?_
    · rw [e]
      exact Or.inr (Or.inl ⟨rfl, by show (0 : Int) < 1; omega, o, n, L_seg _, g3, rfl⟩)
    · obtain ⟨rfl, rfl⟩ := dR_false e
      rfl
    refine runs_append _ _ _ ⟨false, cond (dF r) 2 (cond (dR o n) 1 0), u, dR o n, o, n, dF r, r, false, nil, false, nil, nil, false, nil⟩ _ (runs_seg (fun e => ?_) (fun e => ?_)) ?_
    · rw [e]
      refine Or.inr (Or.inr (Or.inl ⟨rfl, ?_, r, L_seg _, rfl⟩))
      show cond (dR o n) (1 : Int) 0 < 2
      cases dR o n <;> decide
    · rw [e, dF_false e]
      rfl
    refine runs_append _ _ _ ⟨false, cond ex 3 (cond (dF r) 2 (cond (dR o n) 1 0)), u, dR o n, o, n, dF r, r, ex, cond ex b nil, false, nil, nil, false, nil⟩ _ (runs_seg (fun e => ?_) (fun e => ?_)) ?_
    · subst e
      refine Or.inr (Or.inr (Or.inr (Or.inl ⟨rfl, ?_, b, L_seg _, rfl⟩)))
      show cond (dF r) (2 : Int) (cond (dR o n) 1 0) < 3
      cases dR o n <;> cases dF r <;> decide
    · subst e; rfl
    refine runs_append _ _ _ ⟨false, cond (dR k wn) 4 (cond ex 3 (cond (dF r) 2 (cond (dR o n) 1 0))), u, dR o n, o, n, dF r, r, ex, cond ex b nil, dR k wn, k, wn, false, nil⟩ _ (runs_seg (fun e => ?_) (fun e => ?_)) ?_
    · rw [e]
      refine Or.inr (Or.inr (Or.inr (Or.inr (Or.inl ⟨rfl, ?_, k, wn, L_seg _, g8, rfl⟩))))
      show cond ex (3 : Int) (cond (dF r) 2 (cond (dR o n) 1 0)) < 4
      cases dR o n <;> cases dF r <;> cases ex <;> decide
    · obtain ⟨rfl, rfl⟩ := dR_false e
      rfl
    refine runs_seg (fun e => ?_) (fun e => ?_)
    · unfold fin
      rw [e]
      refine Or.inr (Or.inr (Or.inr (Or.inr (Or.inr ⟨rfl, ?_, ns, L_seg _, rfl⟩))))
      show cond (dR k wn) (4 : Int) (cond ex 3 (cond (dF r) 2 (cond (dR o n) 1 0))) < 5
      cases dR o n <;> cases dF r <;> cases ex <;> cases dR k wn <;> decide
    · unfold fin
      rw [e, dF_false e]
      rfl

theorem key_len (ex : Bool) (u b o n r ns k wn : ByteArray) (hu : u.size ≤ 65536) (hb : b.size ≤ 65536) (ho : o.size ≤ 65536) (hn : n.size ≤ 65536) (hr : r.size ≤ 65536) (hns : ns.size ≤ 65536) (hk : k.size ≤ 65536) (hwn : wn.size ≤ 65536) :
    (key ex (L u) (L b) (L o) (L n) (L r) (L ns) (L k) (L wn)).length ≤ 1048576 := by
  unfold key keyR keyF keyB keyW keyN
  simp only [List.length_append]
  have e1 := part_len (!((L o).isEmpty && (L n).isEmpty)) ([124, 114, 61] ++ (L o ++ ([47] ++ L n)))
  have e2 := part_len (!(L r).isEmpty) ([124, 114, 101, 102, 61] ++ L r)
  have e3 := part_len ex ([124, 98, 112, 61] ++ L b)
  have e4 := part_len (!((L k).isEmpty && (L wn).isEmpty)) ([124, 119, 111, 114, 107, 108, 111, 97, 100, 61] ++ (L k ++ ([47] ++ L wn)))
  have e5 := part_len (!(L ns).isEmpty) ([124, 110, 115, 61] ++ L ns)
  simp only [List.length_append, List.length_cons, List.length_nil, len_list] at *
  omega
end Go.Proofs.Qxb6600041a.Read
