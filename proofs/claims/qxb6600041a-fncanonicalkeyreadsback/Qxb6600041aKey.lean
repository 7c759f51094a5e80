/-
  THE WALK of (Request).CanonicalKey: it returns the plain text 'key' and turns nothing that was there.
-/
import Derived.Test.Qxb6600041aRows
import Derived.Test.Qxb6600041aBld
import Derived.WalkKit
import Derived.ProofKit
import Derived.OpenShut
import Derived.ShutString
import Derived.WalkSpells
import Derived.WalkLawsBesides
import Derived.Deep.DeepCutAuto
namespace Go.Proofs.Qxb6600041a.Key
open Go.ChangeShapes Go.WideShapes Go.ChangeAt Go.RowKit

/-! ### The plain text of a key -/
/-- A part that stands only where 'c' says so. -/
def part (c : Bool) (x : List UInt8) : List UInt8 := if c = true then x else []
def keyR (o n : List UInt8) : List UInt8 := part (!(o.isEmpty && n.isEmpty)) ([124, 114, 61] ++ (o ++ ([47] ++ n)))
def keyF (r : List UInt8) : List UInt8 := part (!r.isEmpty) ([124, 114, 101, 102, 61] ++ r)
def keyB (ex : Bool) (b : List UInt8) : List UInt8 := part ex ([124, 98, 112, 61] ++ b)
def keyW (k wn : List UInt8) : List UInt8 := part (!(k.isEmpty && wn.isEmpty)) ([124, 119, 111, 114, 107, 108, 111, 97, 100, 61] ++ (k ++ ([47] ++ wn)))
def keyN (ns : List UInt8) : List UInt8 := part (!ns.isEmpty) ([124, 110, 115, 61] ++ ns)
/-- u=<user>, then the optional parts. -/
def key (ex : Bool) (u b o n r ns k wn : List UInt8) : List UInt8 := [117, 61] ++ u ++ keyR o n ++ keyF r ++ keyB ex b ++ keyW k wn ++ keyN ns
def explicit (f : List UInt8) : Bool := f == [101, 120, 112, 108, 105, 99, 105, 116]

/-! ### The builder in the middle of the walk -/
def St (w : World) (bx : Obj) (bs : List UInt8) (w' : World) : Prop :=
  Lib.BuilderAt 42 5 (w.heap.size + 1) (w.heap.size + 1) (.pointer (some ⟨w.heap.size + 1, 0, none⟩)) (Lib.byteCells bs) w' ∧ Below (w.heap.size + 1) (w.alloc bx) w'

theorem St.cells {w : World} {xs : Array Value} {bs : List UInt8} {w' : World} (h : St w (.cells xs 30) bs w') (j : Nat) (v : Value) (hv : xs[j]? = some v) : w'.cell? ⟨w.heap.size, j, none⟩ = some v := by
  rw [h.2.cell (p := ⟨w.heap.size, j, none⟩) (Nat.lt_succ_self _)]
  have : (w.alloc (.cells xs 30)).heap[w.heap.size]? = some (.cells xs 30) := by show (w.heap.push _)[w.heap.size]? = _; simp
  rw [Lib.cell_of_heap this]
  exact hv

theorem St.write {w : World} {bx : Obj} {bs : List UInt8} {w1 : World} (h : St w bx bs w1) (s : ByteArray) (hl : bs.length + s.size ≤ 140737488355328) :
    Calls Try.prog 23 #[.pointer (some ⟨w.heap.size + 1, 0, none⟩), .string s] w1 fun e w' => e = .returned (.tuple #[.int .i64 s.size, .nilIface]) ∧ St w bx (bs ++ s.data.toList) w' := by
  refine (Bld.writeString _ _ _ s w1 (Or.inr h.1) (by simpa [Lib.byteCells_length] using hl) ?_).mono ?_
  · have := h.1.lt; omega
  · rintro e w' ⟨rfl, hb, hbel⟩
    refine ⟨rfl, ?_, h.2.trans hbel⟩
    have : Lib.byteCells (bs ++ s.data.toList) = Lib.byteCells bs ++ Lib.strCells s := by simp [Lib.byteCells, Lib.strCells]
    rw [this]
    exact hb

theorem fresh {w : World} {bx : Obj} : Lib.BuilderAt 42 5 (w.heap.size + 1) (w.heap.size + 1) (.pointer none) (Lib.byteCells []) ((w.alloc bx).alloc (.cells #[.pointer none, .slice none 0 0] 42)) := by
  refine ⟨Nat.le_refl _, .slice none 0 0, ?_, ?_, ?_⟩
  · show ((w.heap.push _).push _)[w.heap.size + 1]? = _
    rw [Array.getElem?_push]
    simp
  · exact World.ownsRow_nil _ _ _ _
  · simp [Value.ownBlock]

theorem St.first {w : World} {bx : Obj} (s : ByteArray) (hl : s.size ≤ 140737488355328) :
    Calls Try.prog 23 #[.pointer (some ⟨w.heap.size + 1, 0, none⟩), .string s] ((w.alloc bx).alloc (.cells #[.pointer none, .slice none 0 0] 42)) fun e w' => e = .returned (.tuple #[.int .i64 s.size, .nilIface]) ∧ St w bx s.data.toList w' := by
  refine (Bld.writeString _ _ _ s _ (Or.inl fresh) (by simpa [Lib.byteCells_length] using hl) (by simp)).mono ?_
  rintro e w' ⟨rfl, hb, hbel⟩
  refine ⟨rfl, ?_, ((Below.refl _ _).alloc (by simp) _).trans hbel⟩
  simpa [Lib.byteCells, Lib.strCells] using hb

theorem St.string {w : World} {bx : Obj} {bs : List UInt8} {w1 : World} (h : St w bx bs w1) :
    Calls Try.prog 24 #[.pointer (some ⟨w.heap.size + 1, 0, none⟩)] w1 fun e w' => e = .returned (.string ⟨bs.toArray⟩) ∧ Below w.heap.size w w' := by
  refine (Bld.string_any _ _ bs w1 (Or.inr h.1) ?_).mono ?_
  · have := h.1.lt; omega
  · rintro e w' ⟨rfl, hbel⟩
    exact ⟨rfl, ((Below.refl _ _).alloc (Nat.le_refl _) _).trans ((h.2.trans hbel).mono (Nat.le_succ _))⟩

theorem toList_append (a b : ByteArray) : (a ++ b).data.toList = a.data.toList ++ b.data.toList := by simp
theorem part_no {c : Bool} {x l : List UInt8} (h : c = false) : l ++ part c x = l := by subst h; simp [part]
theorem part_yes {c : Bool} {x l : List UInt8} (h : c = true) : l ++ part c x = l ++ x := by subst h; simp [part]
theorem part_len (c : Bool) (x : List UInt8) : (part c x).length ≤ x.length := by unfold part; split <;> simp

theorem sz (l : List UInt8) : (ByteArray.mk l.toArray).size = l.length := size_of_list l
theorem szA (a b : ByteArray) : (a ++ b).size = a.size + b.size := ByteArray.size_append

theorem St.all {f u b o n r p ns k wn c : ByteArray} {w : World} {bx : Array Value} {bs : List UInt8} {w' : World} (h : St w (.cells bx 30) bs w') (HB : Hid (bx = #[Value.string f, .string u, .string b, .string o, .string n, .string r, .string p, .string ns, .string k, .string wn, .string c])) :
    w'.cell? ⟨w.heap.size, 0, none⟩ = some (.string f) ∧ w'.cell? ⟨w.heap.size, 2, none⟩ = some (.string b) ∧ w'.cell? ⟨w.heap.size, 3, none⟩ = some (.string o) ∧ w'.cell? ⟨w.heap.size, 4, none⟩ = some (.string n)
    ∧ w'.cell? ⟨w.heap.size, 5, none⟩ = some (.string r) ∧ w'.cell? ⟨w.heap.size, 7, none⟩ = some (.string ns) ∧ w'.cell? ⟨w.heap.size, 8, none⟩ = some (.string k) ∧ w'.cell? ⟨w.heap.size, 9, none⟩ = some (.string wn) := by
  have e := HB.out
  subst e
  exact ⟨h.cells 0 _ rfl, h.cells 2 _ rfl, h.cells 3 _ rfl, h.cells 4 _ rfl, h.cells 5 _ rfl, h.cells 7 _ rfl, h.cells 8 _ rfl, h.cells 9 _ rfl⟩

/-- In the middle: the builder holds 'bs', which is 'x', of at most 'N' bytes. -/
def Mid (w : World) (bx : Array Value) (x : List UInt8) (N : Nat) (w' : World) : Prop := ∃ bs, bs = x ∧ bs.length ≤ N ∧ St w (.cells bx 30) bs w'

theorem Mid.skip {w : World} {bx : Array Value} {x : List UInt8} {N M : Nat} {w' : World} {c : Bool} {y : List UInt8} (h : Mid w bx x N w') (hc : c = false) (hN : N ≤ M) : Mid w bx (x ++ part c y) M w' := by
  obtain ⟨bs, rfl, hl, hs⟩ := h
  exact ⟨bs, (part_no hc).symm, Nat.le_trans hl hN, hs⟩
theorem Mid.write {w : World} {bx : Array Value} {x : List UInt8} {N M : Nat} {w' : World} {c : Bool} {y : List UInt8} (h : Mid w bx x N w') (hc : c = true) (s : ByteArray) (hy : s.data.toList = y) (hN : N + s.size ≤ M) (hM : M ≤ 140737488355328) :
    Calls Try.prog 23 #[.pointer (some ⟨w.heap.size + 1, 0, none⟩), .string s] w' fun e w'' => e = .returned (.tuple #[.int .i64 s.size, .nilIface]) ∧ Mid w bx (x ++ part c y) M w'' := by
  obtain ⟨bs, rfl, hl, hs⟩ := h
  refine (hs.write s (by omega)).mono ?_
  rintro e w'' ⟨rfl, h2⟩
  refine ⟨rfl, bs ++ s.data.toList, by rw [part_yes hc, hy], ?_, h2⟩
  have : s.data.toList.length = s.size := by simp
  simp only [List.length_append]
  omega
theorem Mid.all {f u b o n r p ns k wn c : ByteArray} {w : World} {bx : Array Value} {x : List UInt8} {N : Nat} {w' : World} (h : Mid w bx x N w') (HB : Hid (bx = #[Value.string f, .string u, .string b, .string o, .string n, .string r, .string p, .string ns, .string k, .string wn, .string c])) :
    w'.cell? ⟨w.heap.size, 0, none⟩ = some (.string f) ∧ w'.cell? ⟨w.heap.size, 2, none⟩ = some (.string b) ∧ w'.cell? ⟨w.heap.size, 3, none⟩ = some (.string o) ∧ w'.cell? ⟨w.heap.size, 4, none⟩ = some (.string n)
    ∧ w'.cell? ⟨w.heap.size, 5, none⟩ = some (.string r) ∧ w'.cell? ⟨w.heap.size, 7, none⟩ = some (.string ns) ∧ w'.cell? ⟨w.heap.size, 8, none⟩ = some (.string k) ∧ w'.cell? ⟨w.heap.size, 9, none⟩ = some (.string wn) := by
  obtain ⟨bs, rfl, hl, hs⟩ := h
  exact hs.all HB
theorem Mid.first {w : World} {bx : Array Value} {x : List UInt8} {N : Nat} (s : ByteArray) (hx : s.data.toList = x) (hN : s.size ≤ N) (hl : N ≤ 140737488355328) :
    Calls Try.prog 23 #[.pointer (some ⟨w.heap.size + 1, 0, none⟩), .string s] ((w.alloc (.cells bx 30)).alloc (.cells #[.pointer none, .slice none 0 0] 42)) fun e w' => e = .returned (.tuple #[.int .i64 s.size, .nilIface]) ∧ Mid w bx x N w' := by
  refine (St.first s (by omega)).mono ?_
  rintro e w' ⟨rfl, h⟩
  exact ⟨rfl, _, hx, by simpa using hN, h⟩
theorem Mid.string {w : World} {bx : Array Value} {x : List UInt8} {N : Nat} {w1 : World} (h : Mid w bx x N w1) :
    Calls Try.prog 24 #[.pointer (some ⟨w.heap.size + 1, 0, none⟩)] w1 fun e w' => e = .returned (.string ⟨x.toArray⟩) ∧ Below w.heap.size w w' := by
  obtain ⟨bs, rfl, hl, hs⟩ := h
  exact hs.string

theorem bool_or {a b : ByteArray} (h : a.toList = []) : Value.bool (!b.toList.isEmpty) = .bool (!(a.data.toList.isEmpty && b.data.toList.isEmpty)) := by
  rw [ByteArray.toList_eq] at *
  simp [h]
theorem bool_or' {a b : ByteArray} (h : ¬ a.toList = []) : Value.bool true = .bool (!(a.data.toList.isEmpty && b.data.toList.isEmpty)) := by
  rw [ByteArray.toList_eq] at *
  have : a.data.toList.isEmpty = false := by simpa using h
  rw [this]; rfl
theorem bool_ex {f : ByteArray} : Value.bool (f.toList == [101, 120, 112, 108, 105, 99, 105, 116]) = .bool (explicit f.data.toList) := by
  rw [ByteArray.toList_eq]; rfl
theorem s1 (a : Array UInt8) : (ByteArray.mk a).size = a.size := rfl
theorem bool_ne {a : ByteArray} : Value.bool (!a.toList.isEmpty) = .bool (!a.data.toList.isEmpty) := by
  rw [ByteArray.toList_eq]

theorem eqR (a b : ByteArray) : (ByteArray.mk #[124, 114, 61] ++ a ++ ByteArray.mk #[47] ++ b).data.toList = [124, 114, 61] ++ (a.data.toList ++ ([47] ++ b.data.toList)) := by simp
theorem sizeR (a b : ByteArray) : (ByteArray.mk #[124, 114, 61] ++ a ++ ByteArray.mk #[47] ++ b).size = 3 + a.size + 1 + b.size := by rw [szA, szA, szA]; rfl
theorem eqW (a b : ByteArray) : (ByteArray.mk #[124, 119, 111, 114, 107, 108, 111, 97, 100, 61] ++ a ++ ByteArray.mk #[47] ++ b).data.toList = [124, 119, 111, 114, 107, 108, 111, 97, 100, 61] ++ (a.data.toList ++ ([47] ++ b.data.toList)) := by simp
theorem sizeW (a b : ByteArray) : (ByteArray.mk #[124, 119, 111, 114, 107, 108, 111, 97, 100, 61] ++ a ++ ByteArray.mk #[47] ++ b).size = 10 + a.size + 1 + b.size := by rw [szA, szA, szA]; rfl
theorem eqF (a : ByteArray) : (ByteArray.mk #[124, 114, 101, 102, 61] ++ a).data.toList = [124, 114, 101, 102, 61] ++ a.data.toList := by simp
theorem sizeF (a : ByteArray) : (ByteArray.mk #[124, 114, 101, 102, 61] ++ a).size = 5 + a.size := by rw [szA]; rfl
theorem eqB (a : ByteArray) : (ByteArray.mk #[124, 98, 112, 61] ++ a).data.toList = [124, 98, 112, 61] ++ a.data.toList := by simp
theorem sizeB (a : ByteArray) : (ByteArray.mk #[124, 98, 112, 61] ++ a).size = 4 + a.size := by rw [szA]; rfl
theorem eqN (a : ByteArray) : (ByteArray.mk #[124, 110, 115, 61] ++ a).data.toList = [124, 110, 115, 61] ++ a.data.toList := by simp
theorem sizeN (a : ByteArray) : (ByteArray.mk #[124, 110, 115, 61] ++ a).size = 4 + a.size := by rw [szA]; rfl

set_option maxRecDepth 100000 in
set_option maxHeartbeats 2000000 in
theorem key_any (f u b o n r p ns k wn c : ByteArray) (w : World) (hu : u.size ≤ 65536) (hb : b.size ≤ 65536) (ho : o.size ≤ 65536) (hn : n.size ≤ 65536) (hr : r.size ≤ 65536) (hns : ns.size ≤ 65536) (hk : k.size ≤ 65536) (hwn : wn.size ≤ 65536) :
    Calls Try.prog 16 #[.agg #[.string f, .string u, .string b, .string o, .string n, .string r, .string p, .string ns, .string k, .string wn, .string c]] w fun e w' =>
      e = .returned (.string ⟨(key (explicit f.data.toList) u.data.toList b.data.toList o.data.toList n.data.toList r.data.toList ns.data.toList k.data.toList wn.data.toList).toArray⟩) ∧ Below w.heap.size w w' := by
  obtain ⟨bx, hbx⟩ : ∃ bx, bx = #[Value.string f, .string u, .string b, .string o, .string n, .string r, .string p, .string ns, .string k, .string wn, .string c] := ⟨_, rfl⟩
  have HB : Hid (bx = #[Value.string f, .string u, .string b, .string o, .string n, .string r, .string p, .string ns, .string k, .string wn, .string c]) := hbx
  clear hbx
  go_enter Try.func16, Try.ntmps16
  go_wp2_with fail
  rw [← HB.out]
  refine (Mid.first (x := [117, 61] ++ u.data.toList) (N := 65538) _ (by simp) (by rw [szA]; show 2 + _ ≤ _; omega) (by omega)).mono ?_
  rintro e w1 ⟨rfl, h1⟩
  have H1 : Hid _ := h1
  clear h1
  -- part R
  obtain ⟨c0, c2, c3, c4, c5, c7, c8, c9⟩ := Mid.all H1.out HB
  go_upto_region 3 with fail
  go_cut [15] (fun sx wx => sx = .bool (!(o.data.toList.isEmpty && n.data.toList.isEmpty)) ∧ wx = w1)
  case first =>
    go_wp2_with fail
    · go_meet
      exact ⟨bool_or (by assumption), rfl⟩
    · go_meet
      exact ⟨bool_or' (by assumption), rfl⟩
  case rest =>
  obtain ⟨rfl, rfl⟩ := hcut
  obtain ⟨d, hd⟩ : ∃ d, d = (!(o.data.toList.isEmpty && n.data.toList.isEmpty)) := ⟨_, rfl⟩
  rw [← hd]
  have HD : Hid (d = (!(o.data.toList.isEmpty && n.data.toList.isEmpty))) := hd
  clear hd
  go_upto_if 15 with fail
  go_cut [] (fun wx => Hid (Mid w bx ([117, 61] ++ u.data.toList ++ keyR o.data.toList n.data.toList) 196614 wx))
  case first =>
    cases d
    · go_wp2_with fail
      go_meet
      exact Mid.skip (N := 65538) H1.out HD.out.symm (by omega)
    · go_wp2_with fail
      refine (Mid.write (N := 65538) (M := 196614) H1.out HD.out.symm _ (eqR o n) (by rw [sizeR]; omega) (by omega)).mono ?_
      rintro e w2 ⟨rfl, h2⟩
      have H2 : Hid _ := h2
      clear h2
      go_wp2_with fail
      go_meet
      exact H2
  case rest =>
  clear H1 HD c0 c2 c3 c4 c5 c7 c8 c9
  -- part F
  have H1 := hcut
  clear hcut
  obtain ⟨c0, c2, c3, c4, c5, c7, c8, c9⟩ := Mid.all H1.out HB
  go_upto_region 5 with fail
  go_cut [26] (fun sx wx => sx = .bool (!r.data.toList.isEmpty) ∧ wx = wc)
  case first =>
    go_wp2_with fail
    go_meet
    exact ⟨bool_ne, rfl⟩
  case rest =>
  obtain ⟨rfl, rfl⟩ := hcut
  obtain ⟨d, hd⟩ : ∃ d, d = (!r.data.toList.isEmpty) := ⟨_, rfl⟩
  rw [← hd]
  have HD : Hid (d = (!r.data.toList.isEmpty)) := hd
  clear hd
  go_upto_if 26 with fail
  go_cut [] (fun wx => Hid (Mid w bx ([117, 61] ++ u.data.toList ++ keyR o.data.toList n.data.toList ++ keyF r.data.toList) 262155 wx))
  case first =>
    cases d
    · go_wp2_with fail
      go_meet
      exact Mid.skip (N := 196614) H1.out HD.out.symm (by omega)
    · go_wp2_with fail
      refine (Mid.write (N := 196614) (M := 262155) H1.out HD.out.symm _ (eqF r) (by rw [sizeF]; omega) (by omega)).mono ?_
      rintro e w2 ⟨rfl, h2⟩
      have H2 : Hid _ := h2
      clear h2
      go_wp2_with fail
      go_meet
      exact H2
  case rest =>
  clear H1 HD c0 c2 c3 c4 c5 c7 c8 c9
  -- part B
  have H1 := hcut
  clear hcut
  obtain ⟨c0, c2, c3, c4, c5, c7, c8, c9⟩ := Mid.all H1.out HB
  go_upto_region 7 with fail
  go_cut [33] (fun sx wx => sx = .bool (explicit f.data.toList) ∧ wx = wc)
  case first =>
    go_wp2_with fail
    go_meet
    exact ⟨bool_ex, rfl⟩
  case rest =>
  obtain ⟨rfl, rfl⟩ := hcut
  obtain ⟨d, hd⟩ : ∃ d, d = (explicit f.data.toList) := ⟨_, rfl⟩
  rw [← hd]
  have HD : Hid (d = (explicit f.data.toList)) := hd
  clear hd
  go_upto_if 33 with fail
  go_cut [] (fun wx => Hid (Mid w bx ([117, 61] ++ u.data.toList ++ keyR o.data.toList n.data.toList ++ keyF r.data.toList ++ keyB (explicit f.data.toList) b.data.toList) 327695 wx))
  case first =>
    cases d
    · go_wp2_with fail
      go_meet
      exact Mid.skip (N := 262155) H1.out HD.out.symm (by omega)
    · go_wp2_with fail
      refine (Mid.write (N := 262155) (M := 327695) H1.out HD.out.symm _ (eqB b) (by rw [sizeB]; omega) (by omega)).mono ?_
      rintro e w2 ⟨rfl, h2⟩
      have H2 : Hid _ := h2
      clear h2
      go_wp2_with fail
      go_meet
      exact H2
  case rest =>
  clear H1 HD c0 c2 c3 c4 c5 c7 c8 c9
  -- part W
  have H1 := hcut
  clear hcut
  obtain ⟨c0, c2, c3, c4, c5, c7, c8, c9⟩ := Mid.all H1.out HB
  go_upto_region 9 with fail
  go_cut [45] (fun sx wx => sx = .bool (!(k.data.toList.isEmpty && wn.data.toList.isEmpty)) ∧ wx = wc)
  case first =>
    go_wp2_with fail
    · go_meet
      exact ⟨bool_or (by assumption), rfl⟩
    · go_meet
      exact ⟨bool_or' (by assumption), rfl⟩
  case rest =>
  obtain ⟨rfl, rfl⟩ := hcut
  obtain ⟨d, hd⟩ : ∃ d, d = (!(k.data.toList.isEmpty && wn.data.toList.isEmpty)) := ⟨_, rfl⟩
  rw [← hd]
  have HD : Hid (d = (!(k.data.toList.isEmpty && wn.data.toList.isEmpty))) := hd
  clear hd
  go_upto_if 45 with fail
  go_cut [] (fun wx => Hid (Mid w bx ([117, 61] ++ u.data.toList ++ keyR o.data.toList n.data.toList ++ keyF r.data.toList ++ keyB (explicit f.data.toList) b.data.toList ++ keyW k.data.toList wn.data.toList) 458778 wx))
  case first =>
    cases d
    · go_wp2_with fail
      go_meet
      exact Mid.skip (N := 327695) H1.out HD.out.symm (by omega)
    · go_wp2_with fail
      refine (Mid.write (N := 327695) (M := 458778) H1.out HD.out.symm _ (eqW k wn) (by rw [sizeW]; omega) (by omega)).mono ?_
      rintro e w2 ⟨rfl, h2⟩
      have H2 : Hid _ := h2
      clear h2
      go_wp2_with fail
      go_meet
      exact H2
  case rest =>
  clear H1 HD c0 c2 c3 c4 c5 c7 c8 c9
  -- part N
  have H1 := hcut
  clear hcut
  obtain ⟨c0, c2, c3, c4, c5, c7, c8, c9⟩ := Mid.all H1.out HB
  go_upto_region 11 with fail
  go_cut [56] (fun sx wx => sx = .bool (!ns.data.toList.isEmpty) ∧ wx = wc)
  case first =>
    go_wp2_with fail
    go_meet
    exact ⟨bool_ne, rfl⟩
  case rest =>
  obtain ⟨rfl, rfl⟩ := hcut
  obtain ⟨d, hd⟩ : ∃ d, d = (!ns.data.toList.isEmpty) := ⟨_, rfl⟩
  rw [← hd]
  have HD : Hid (d = (!ns.data.toList.isEmpty)) := hd
  clear hd
  go_upto_if 56 with fail
  go_cut [] (fun wx => Hid (Mid w bx ([117, 61] ++ u.data.toList ++ keyR o.data.toList n.data.toList ++ keyF r.data.toList ++ keyB (explicit f.data.toList) b.data.toList ++ keyW k.data.toList wn.data.toList ++ keyN ns.data.toList) 524318 wx))
  case first =>
    cases d
    · go_wp2_with fail
      go_meet
      exact Mid.skip (N := 458778) H1.out HD.out.symm (by omega)
    · go_wp2_with fail
      refine (Mid.write (N := 458778) (M := 524318) H1.out HD.out.symm _ (eqN ns) (by rw [sizeN]; omega) (by omega)).mono ?_
      rintro e w2 ⟨rfl, h2⟩
      have H2 : Hid _ := h2
      clear h2
      go_wp2_with fail
      go_meet
      exact H2
  case rest =>
  clear H1 HD c0 c2 c3 c4 c5 c7 c8 c9
  have H1 : Hid (Mid w bx (key (explicit f.data.toList) u.data.toList b.data.toList o.data.toList n.data.toList r.data.toList ns.data.toList k.data.toList wn.data.toList) 524318 wc) := hcut
  clear hcut
  obtain ⟨X, hX⟩ : ∃ X, X = key (explicit f.data.toList) u.data.toList b.data.toList o.data.toList n.data.toList r.data.toList ns.data.toList k.data.toList wn.data.toList := ⟨_, rfl⟩
  rw [← hX] at H1
  have HX : Hid (X = key (explicit f.data.toList) u.data.toList b.data.toList o.data.toList n.data.toList r.data.toList ns.data.toList k.data.toList wn.data.toList) := hX
  clear hX
  go_wp2_with fail
  refine (Mid.string H1.out).mono ?_
  rintro e w2 ⟨rfl, h2⟩
  have H2 : Hid _ := h2
  clear h2
  go_wp2_with fail
  go_ret
  exact ⟨by rw [← HX.out]; rfl, H2.out⟩
end Go.Proofs.Qxb6600041a.Key
