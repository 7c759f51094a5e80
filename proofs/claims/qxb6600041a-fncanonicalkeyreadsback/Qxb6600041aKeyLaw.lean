/-
  PLAIN: a key tells a change of one field that enters it. And the walk of reqB1.
-/
import Derived.Test.Qxb6600041aKey
namespace Go.Proofs.Qxb6600041a.Key
open Go.ChangeShapes Go.WideShapes Go.ChangeAt Go.RowKit

theorem part_eq {c d : Bool} {x y : List UInt8} (hx : x ≠ []) (hy : y ≠ []) (h : part c x = part d y) : c = d ∧ (c = true → x = y) := by
  cases c <;> cases d <;> simp [part] at h
  · simp
  · exact absurd h hy
  · exact absurd h hx
  · simp [h]

theorem keyR_1 (o v n : List UInt8) : keyR o n = keyR v n ↔ o = v := by
  constructor
  · intro h
    unfold keyR at h
    have := part_eq (by simp) (by simp) h
    by_cases hc : (!(o.isEmpty && n.isEmpty)) = true
    · have e := this.2 hc
      simpa using e
    · have e1 := this.1
      simp at hc e1
      simp [hc] at e1
      rw [hc.1, e1]
  · rintro rfl; rfl
theorem keyR_2 (o n v : List UInt8) : keyR o n = keyR o v ↔ n = v := by
  constructor
  · intro h
    unfold keyR at h
    have := part_eq (by simp) (by simp) h
    by_cases hc : (!(o.isEmpty && n.isEmpty)) = true
    · have e := this.2 hc
      simpa using e
    · have e1 := this.1
      simp at hc e1
      simp [hc] at e1
      rw [hc.2, e1]
  · rintro rfl; rfl
theorem keyW_1 (o v n : List UInt8) : keyW o n = keyW v n ↔ o = v := by
  constructor
  · intro h
    unfold keyW at h
    have := part_eq (by simp) (by simp) h
    by_cases hc : (!(o.isEmpty && n.isEmpty)) = true
    · have e := this.2 hc
      simpa using e
    · have e1 := this.1
      simp at hc e1
      simp [hc] at e1
      rw [hc.1, e1]
  · rintro rfl; rfl
theorem keyW_2 (o n v : List UInt8) : keyW o n = keyW o v ↔ n = v := by
  constructor
  · intro h
    unfold keyW at h
    have := part_eq (by simp) (by simp) h
    by_cases hc : (!(o.isEmpty && n.isEmpty)) = true
    · have e := this.2 hc
      simpa using e
    · have e1 := this.1
      simp at hc e1
      simp [hc] at e1
      rw [hc.2, e1]
  · rintro rfl; rfl
theorem keyF_1 (r v : List UInt8) : keyF r = keyF v ↔ r = v := by
  constructor
  · intro h
    unfold keyF at h
    have := part_eq (by simp) (by simp) h
    by_cases hc : (!r.isEmpty) = true
    · have e := this.2 hc
      simpa using e
    · have e1 := this.1
      simp at hc e1
      simp [hc] at e1
      rw [hc, e1]
  · rintro rfl; rfl
theorem keyN_1 (r v : List UInt8) : keyN r = keyN v ↔ r = v := by
  constructor
  · intro h
    unfold keyN at h
    have := part_eq (by simp) (by simp) h
    by_cases hc : (!r.isEmpty) = true
    · have e := this.2 hc
      simpa using e
    · have e1 := this.1
      simp at hc e1
      simp [hc] at e1
      rw [hc, e1]
  · rintro rfl; rfl
theorem keyB_1 (r v : List UInt8) : keyB true r = keyB true v ↔ r = v := by
  unfold keyB part
  simp

/-- The two keys are one just where 'same' says so. -/
def Tells (x y : List UInt8) (same : Bool) : Prop := (x == y) = same
theorem tells_of {x y : List UInt8} {a b : ByteArray} (h : x = y ↔ b.data.toList = a.data.toList) : Tells x y (a.toList == b.toList) := by
  unfold Tells
  rw [Bool.eq_iff_iff, ByteArray.toList_eq, ByteArray.toList_eq]
  simp only [beq_iff_eq]
  rw [h]
  exact eq_comm
theorem tells_u (ex : Bool) (u b o n r ns k wn v : ByteArray) : Tells (key ex u.data.toList b.data.toList o.data.toList n.data.toList r.data.toList ns.data.toList k.data.toList wn.data.toList) (key ex v.data.toList b.data.toList o.data.toList n.data.toList r.data.toList ns.data.toList k.data.toList wn.data.toList) (v.toList == u.toList) :=
  tells_of (by unfold key; simp only [List.append_cancel_right_eq, List.append_cancel_left_eq])
theorem tells_b (u b o n r ns k wn v : ByteArray) : Tells (key true u.data.toList b.data.toList o.data.toList n.data.toList r.data.toList ns.data.toList k.data.toList wn.data.toList) (key true u.data.toList v.data.toList o.data.toList n.data.toList r.data.toList ns.data.toList k.data.toList wn.data.toList) (v.toList == b.toList) :=
  tells_of (by unfold key; simp only [List.append_cancel_right_eq, List.append_cancel_left_eq, keyB_1])
theorem tells_o (ex : Bool) (u b o n r ns k wn v : ByteArray) : Tells (key ex u.data.toList b.data.toList o.data.toList n.data.toList r.data.toList ns.data.toList k.data.toList wn.data.toList) (key ex u.data.toList b.data.toList v.data.toList n.data.toList r.data.toList ns.data.toList k.data.toList wn.data.toList) (v.toList == o.toList) :=
  tells_of (by unfold key; simp only [List.append_cancel_right_eq, List.append_cancel_left_eq, keyR_1])
theorem tells_n (ex : Bool) (u b o n r ns k wn v : ByteArray) : Tells (key ex u.data.toList b.data.toList o.data.toList n.data.toList r.data.toList ns.data.toList k.data.toList wn.data.toList) (key ex u.data.toList b.data.toList o.data.toList v.data.toList r.data.toList ns.data.toList k.data.toList wn.data.toList) (v.toList == n.toList) :=
  tells_of (by unfold key; simp only [List.append_cancel_right_eq, List.append_cancel_left_eq, keyR_2])
theorem tells_r (ex : Bool) (u b o n r ns k wn v : ByteArray) : Tells (key ex u.data.toList b.data.toList o.data.toList n.data.toList r.data.toList ns.data.toList k.data.toList wn.data.toList) (key ex u.data.toList b.data.toList o.data.toList n.data.toList v.data.toList ns.data.toList k.data.toList wn.data.toList) (v.toList == r.toList) :=
  tells_of (by unfold key; simp only [List.append_cancel_right_eq, List.append_cancel_left_eq, keyF_1])
theorem tells_ns (ex : Bool) (u b o n r ns k wn v : ByteArray) : Tells (key ex u.data.toList b.data.toList o.data.toList n.data.toList r.data.toList ns.data.toList k.data.toList wn.data.toList) (key ex u.data.toList b.data.toList o.data.toList n.data.toList r.data.toList v.data.toList k.data.toList wn.data.toList) (v.toList == ns.toList) :=
  tells_of (by unfold key; simp only [List.append_cancel_left_eq, keyN_1])
theorem tells_k (ex : Bool) (u b o n r ns k wn v : ByteArray) : Tells (key ex u.data.toList b.data.toList o.data.toList n.data.toList r.data.toList ns.data.toList k.data.toList wn.data.toList) (key ex u.data.toList b.data.toList o.data.toList n.data.toList r.data.toList ns.data.toList v.data.toList wn.data.toList) (v.toList == k.toList) :=
  tells_of (by unfold key; simp only [List.append_cancel_right_eq, List.append_cancel_left_eq, keyW_1])
theorem tells_wn (ex : Bool) (u b o n r ns k wn v : ByteArray) : Tells (key ex u.data.toList b.data.toList o.data.toList n.data.toList r.data.toList ns.data.toList k.data.toList wn.data.toList) (key ex u.data.toList b.data.toList o.data.toList n.data.toList r.data.toList ns.data.toList k.data.toList v.data.toList) (v.toList == wn.toList) :=
  tells_of (by unfold key; simp only [List.append_cancel_right_eq, List.append_cancel_left_eq, keyW_2])

set_option maxRecDepth 100000 in
set_option maxHeartbeats 1000000 in
theorem req_any (f u b o n r p ns k wn c : ByteArray) (w : World) :
    Calls Try.prog 15 #[.string f, .string u, .string b, .string o, .string n, .string r, .string p, .string ns, .string k, .string wn, .string c] w fun e w' =>
      e = .returned (.agg #[.string f, .string u, .string b, .string o, .string n, .string r, .string p, .string ns, .string k, .string wn, .string c]) ∧ w' = w.alloc (.cells #[.string f, .string u, .string b, .string o, .string n, .string r, .string p, .string ns, .string k, .string wn, .string c] 30) := by
  go_enter Try.func15, Try.ntmps15
  go_wp2
  exact bodyPost_ret (v := .agg #[.string f, .string u, .string b, .string o, .string n, .string r, .string p, .string ns, .string k, .string wn, .string c]) (by simp [results, Try.results15, go_sem]) rfl ⟨rfl, rfl⟩
end Go.Proofs.Qxb6600041a.Key
