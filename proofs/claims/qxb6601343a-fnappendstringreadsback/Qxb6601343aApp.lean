/-
  THE WALK of appendString: it appends the quoted text in memory of its own.
-/
import Derived.Test.Qxb6601343aRows
import Derived.WalkKit
import Derived.ProofKit
import Derived.OpenShut
import Derived.ShutString
import Derived.ChangeOld
import Derived.Below
import Derived.WalkSpells
import Derived.WalkLawsBesides
import Derived.Laws.CopyOwn
import Derived.Laws.IdiomCopy
import Derived.ArgAppend
import Derived.Lib.AppendStr
import Derived.Deep.RegionLaw
import Derived.Deep.Onto
import Derived.BigQuiet
import Derived.Deep.QuietTactic
namespace Go.Proofs.Qxb6601343a.App
open Go.ChangeShapes Go.WideShapes Go.ChangeAt Go.RowKit

theorem info5 : (Try.prog.info? 5).map (fun i => (i.zero, i.size, i.bytes)) = some (some (.int .u8 0), 1, 1) := by kernel_rfl

/-- The cells of a list of bytes. -/
def cellsOf (zs : List Int) : List Value := zs.map (Value.int .u8)
def hexd (d : Int) : Int := if d < 10 then 48 + d else 87 + d
/-- One byte, escaped. -/
def esc (c : Int) : List Int :=
  if c = 34 ∨ c = 92 then [92, c] else if c = 8 then [92, 98] else if c = 12 then [92, 102] else if c = 10 then [92, 110] else if c = 13 then [92, 114] else if c = 9 then [92, 116]
  else if c < 32 then [92, 117, 48, 48, hexd (c / 16), hexd (c % 16)] else [c]
def body (l : List UInt8) : List Int := l.flatMap fun c => esc c.toNat
def quote (l : List UInt8) : List Int := [34] ++ body l ++ [34]


theorem cellsOf_append (a b : List Int) : cellsOf (a ++ b) = cellsOf a ++ cellsOf b := by simp [cellsOf]
theorem cellsOf_length (zs : List Int) : (cellsOf zs).length = zs.length := by simp [cellsOf]
theorem cells_app {a b c : List Int} (h : a ++ b = c) : cellsOf a ++ cellsOf b = cellsOf c := by rw [← cellsOf_append, h]
theorem cellsOf_get {zs : List Int} {j : Nat} {v : Value} (h : (cellsOf zs)[j]? = some v) : j < zs.length ∧ v = .int .u8 (zs.getD j 0) := by
  unfold cellsOf at h
  rw [List.getElem?_map] at h
  cases hj : zs[j]? with
  | none => simp [hj] at h
  | some x =>
    have hlt : j < zs.length := (List.getElem?_eq_some_iff.1 hj).1
    simp [hj] at h
    exact ⟨hlt, by simp [← h, hj]⟩
theorem cellsOf_one (zs : List Int) : ∀ v ∈ cellsOf zs, v.oneCell' = true := by
  intro v hv
  simp [cellsOf] at hv
  obtain ⟨_, _, rfl⟩ := hv
  rfl
/-- The cells of a block that has just been laid. -/
theorem laid_cells (w : World) (zs : List Int) (cs : Array Value) (h : cs = (cellsOf zs).toArray) (t : TypeId) : ∀ j u, (cellsOf zs)[j]? = some u → (w.alloc (.cells cs t)).cell? ((⟨w.heap.size, 0, none⟩ : Addr).add j) = some u := by
  intro j u hu
  subst h
  have : (w.alloc (.cells (cellsOf zs).toArray t)).heap[w.heap.size]? = some (.cells (cellsOf zs).toArray t) := by show (w.heap.push _)[w.heap.size]? = _; simp
  rw [Addr.add_lit, Lib.cell_of_heap this]
  simpa using hu

theorem esc_len (c : Int) : 1 ≤ (esc c).length ∧ (esc c).length ≤ 6 := by
  unfold esc
  repeat' split
  all_goals simp
theorem body_len : ∀ l : List UInt8, (body l).length ≤ 6 * l.length
  | [] => by simp [body]
  | c :: l => by
    have := body_len l
    have := esc_len c.toNat
    simp only [body, List.flatMap_cons, List.length_append, List.length_cons] at *
    omega
theorem body_snoc (l : List UInt8) (c : UInt8) : body (l ++ [c]) = body l ++ esc c.toNat := by simp [body]
theorem body_append (a b : List UInt8) : body (a ++ b) = body a ++ body b := by simp [body]
theorem take_snoc (s : ByteArray) (k : Nat) (h : k < s.size) : s.data.toList.take (k + 1) = s.data.toList.take k ++ [s[k]] := by
  rw [List.take_succ_eq_append_getElem (by simpa using h)]; rfl

/-- In the middle: the value 'v' owns, from block B on, the cells of 'olds', the opening quote and the first k bytes escaped. -/
def Mid (B : Nat) (w : World) (olds : List Int) (s : ByteArray) (k : Nat) (v : Value) (wr : World) : Prop :=
  ∃ zs, zs = olds ++ ([34] ++ body (s.data.toList.take k)) ∧ wr.ownsRow B 5 1 v zs.length (cellsOf zs) ∧ Below B w wr
theorem Mid.step {B : Nat} {w : World} {olds : List Int} {s : ByteArray} {k : Nat} {v' : Value} {w' : World} {zs : List Int} (hk : k < s.size) (hz : zs = olds ++ ([34] ++ body (s.data.toList.take k))) (x : List Int) (hx : esc ((s[k]'hk).toNat) = x)
    (ho : w'.ownsRow B 5 1 v' (zs.length + x.length) (cellsOf zs ++ cellsOf x)) (hb : Below B w w') : Mid B w olds s (k + 1) v' w' := by
  refine ⟨zs ++ x, ?_, ?_, hb⟩
  · rw [take_snoc s k hk, body_snoc, hx, hz]; simp
  · rw [cellsOf_append, List.length_append]; exact ho
theorem mid_len {olds : List Int} {s : ByteArray} {k n : Nat} {zs : List Int} (hz : zs = olds ++ ([34] ++ body (s.data.toList.take k))) (ho : olds.length = n) (hk : k ≤ s.size) : zs.length ≤ n + 1 + 6 * s.size := by
  have := body_len (s.data.toList.take k)
  rw [hz]
  simp only [List.length_append, List.length_cons, List.length_nil, List.length_take] at *
  omega

def hexB : ByteArray := ⟨#[48, 49, 50, 51, 52, 53, 54, 55, 56, 57, 97, 98, 99, 100, 101, 102]⟩
theorem hexlt {d : Int} (h0 : 0 ≤ d) (h1 : d < 16) : d.toNat < hexB.size := by have : hexB.size = 16 := rfl; omega
theorem hex_nat : ∀ d : Fin 16, ∀ h : d.val < hexB.size, (((hexB[d.val]'h).toNat : Nat) : Int) = hexd d.val := by decide +kernel
theorem hex_at {d : Int} (h0 : 0 ≤ d) (h1 : d < 16) : (((hexB[d.toNat]'(hexlt h0 h1)).toNat : Nat) : Int) = hexd d := by
  obtain ⟨m, rfl⟩ := Int.eq_ofNat_of_zero_le h0
  exact hex_nat ⟨m, by omega⟩ _
theorem and15 : ∀ x : Nat, x < 32 → bits BinOp.and IntKind.u8 (x : Int) 15 = (x : Int) % 16 := by decide +kernel
theorem step_append_own {P : Program} {ops : Array Oper} {o : Oper} {a : Act} {w : World} {K : Act → World → Prop} {Q : Exit → Act → World → Prop} {E : Prop}
    (hg : o.guard = none) (s x : Operand) (t : TypeId) (hop : o.op = Op.call { callee := Callee.builtin Builtin.append, args := #[s, x], argTypes := #[t, t] })
    (base : Nat) (e : TypeId) (i : TypeInfo) (z : Value) (size bytes : Nat) (h1 : P.underlying t = some (.slice e)) (h2 : P.info? e = some i) (h3 : i.zero = some z) (h4 : i.size = size) (h5 : i.bytes = bytes) (h6 : z.cells.size = size) (h7 : 0 < size)
    (v : Value) (n : Nat) (xs : List Value) (hs : a.eval s = v) (hown : w.ownsRow base e size v n xs)
    (ad : Addr) (m c : Nat) (news : List Value) (hx : a.eval x = .slice (some ad) m c) (hn : news.length = m * size) (hc : ∀ j u, news[j]? = some u → w.cell? (ad.add j) = some u) (h1c : ∀ u ∈ news, u.oneCell' = true)
    (b1 : n + m ≤ maxLen) (b2 : (n + m) * bytes ≤ 140737488355328) (hbase : base ≤ w.heap.size)
    (hK : ∀ v' w', w'.ownsRow base e size v' (n + m) (xs ++ news) → w.grownBy w' v.ownBlock → K (a.put o.dst v') w') :
    if Region.wanted o (yielded ops a.tmps) = true then Oper.wp P o a w K Q else E := by
  have hw : Region.wanted o (yielded ops a.tmps) = true := by simp [Region.wanted, hg]
  rw [if_pos hw]
  obtain ⟨v', w', hrun, r1, r2, _⟩ := run_append_own (P := P) w base t o.type e i z size bytes h1 h2 h3 h4 h5 h6 h7 v n xs hown ad m c news hn hc h1c b1 b2 hbase
  unfold Oper.wp
  simp [execOp, hop, resolve, invoke, builtin, hs, hx, hrun, Result.andThen]
  exact hK v' w' r1 r2

set_option maxRecDepth 100000 in
set_option maxHeartbeats 8000000 in
theorem app_any (ao : Option Addr) (n : Nat) (olds : List Int) (s : ByteArray) (w : World) (hnone : ao = none → n = 0) (hlo : olds.length = n) (hn : n ≤ 1048576) (hs : s.size ≤ 1048576)
    (holds : ∀ b, ao = some b → ∀ j, j < n → w.cell? (b.add j) = some (.int .u8 (olds.getD j 0))) :
    Calls Try.prog 22 #[.slice ao n n, .string s] w fun e w' => ∃ v', e = .returned v' ∧ w'.ownsRow w.heap.size 5 1 v' (olds ++ quote s.data.toList).length (cellsOf (olds ++ quote s.data.toList)) ∧ Below w.heap.size w w' := by
  obtain ⟨i0, hi, hz0, hz1, hz2⟩ := info_parts info5
  have HN : Hid _ := hnone
  have HL : Hid _ := hlo
  have HO : Hid _ := holds
  clear hnone hlo holds
  go_enter Try.func22, Try.ntmps22
  go_wp2_with (at_builtin; refine wpList_append_grows _ rfl _ _ 23 rfl 5 i0 (.int .u8 0) 1 1 Try.underlying23 hi hz0 hz1 hz2 rfl (by decide) ao n n (cellsOf olds) rfl (fun h => ⟨HN.out h, HN.out h⟩) ?lo ?holds ⟨w.heap.size, 0, none⟩ 1 1 (cellsOf [34]) rfl rfl ?c1 ?c2 ?full ?b1 ?b2 ?_)
  case lo => rw [cellsOf_length, Nat.mul_one]; exact HL.out
  case holds =>
    intro b hb j u hu
    obtain ⟨hj, rfl⟩ := cellsOf_get hu
    exact cell_later ((Below.refl _ _).alloc (Nat.le_refl _) _) (HO.out b hb j (by have := HL.out; omega))
  case c1 => exact laid_cells w [34] _ rfl 5
  case c2 => exact cellsOf_one [34]
  case full => omega
  case b1 => unfold maxLen; omega
  case b2 => omega
  intro v1 w1 hown hgrow
  have H1 : Hid (Mid w.heap.size w olds s 0 v1 w1) := by
    refine ⟨olds ++ [34], by simp [body], ?_, ?_⟩
    · rw [cellsOf_append, List.length_append, HL.out]
      exact World.ownsRow.mono hown (by simp)
    · exact ((Below.refl _ _).alloc (Nat.le_refl _) _).grown hgrow (by simp) (fun k h => by cases h)
  clear hown hgrow
  go_wp2_with fail
  go_loopw [0, 5] (fun s0 s5 wr => ∃ (k : Nat) (v : Value), k ≤ s.size ∧ s0 = v ∧ s5 = .int .i64 k ∧ Hid (Mid w.heap.size w olds s k v wr)) (fun _ s5 _ => s.size - (intOf s5).toNat)
  case atStart => exact ⟨0, v1, Nat.zero_le _, rfl, rfl, H1⟩
  case round =>
    obtain ⟨k, v, hk, rfl, rfl, hr⟩ := hrel
    clear H1 HO HN
    obtain ⟨zs, hzs, hown, hbel⟩ := hr.out
    clear hr
    have hzl := mid_len hzs HL.out hk
    have hsz := hbel.size
    have HZS : Hid _ := hzs
    have HOW : Hid _ := fun _ : True => hown
    have HBE : Hid _ := fun _ : True => hbel
    clear hzs hown hbel
    by_cases hlt : k < s.size
    · obtain ⟨c, hcc⟩ : ∃ c : Int, c = (s[k].toNat : Int) := ⟨_, rfl⟩
      have HCC : Hid _ := hcc
      have hb0 : 0 ≤ (s[k].toNat : Int) := by omega
      have hb1 : (s[k].toNat : Int) ≤ 255 := by have := s[k].toNat_lt; omega
      clear hcc HCC c
      have hcls : (s[k].toNat : Int) = 34 ∨ (s[k].toNat : Int) = 92 ∨ (s[k].toNat : Int) = 8 ∨ (s[k].toNat : Int) = 12 ∨ (s[k].toNat : Int) = 10 ∨ (s[k].toNat : Int) = 13 ∨ (s[k].toNat : Int) = 9 ∨ (32 ≤ (s[k].toNat : Int) ∧ (s[k].toNat : Int) ≠ 34 ∧ (s[k].toNat : Int) ≠ 92) ∨ ((s[k].toNat : Int) < 32 ∧ (s[k].toNat : Int) ≠ 8 ∧ (s[k].toNat : Int) ≠ 12 ∧ (s[k].toNat : Int) ≠ 10 ∧ (s[k].toNat : Int) ≠ 13 ∧ (s[k].toNat : Int) ≠ 9) := by omega
      rcases hcls with h | h | h | h | h | h | h | h | h
      · have HX : Hid (esc (s[k].toNat : Int) = [92, (s[k].toNat : Int)]) := by rw [h]; rfl
        have q34 : ((s[k].toNat : Int) == 34) = true := beq_iff_eq.2 h
        have q92 : ((s[k].toNat : Int) == 92) = false := beq_eq_false_iff_ne.2 (by omega)
        have q8 : ((s[k].toNat : Int) == 8) = false := beq_eq_false_iff_ne.2 (by omega)
        have q12 : ((s[k].toNat : Int) == 12) = false := beq_eq_false_iff_ne.2 (by omega)
        have q10 : ((s[k].toNat : Int) == 10) = false := beq_eq_false_iff_ne.2 (by omega)
        have q13 : ((s[k].toNat : Int) == 13) = false := beq_eq_false_iff_ne.2 (by omega)
        have q9 : ((s[k].toNat : Int) == 9) = false := beq_eq_false_iff_ne.2 (by omega)
        have HE : Hid _ := h
        clear h
        go_wp2_with (at_builtin; refine wpList_append_own _ rfl _ _ 23 rfl w.heap.size 5 i0 (.int .u8 0) 1 1 Try.underlying23 hi hz0 hz1 hz2 rfl (by decide) _ _ (cellsOf zs) rfl ((HOW.out trivial).alloc _) ⟨wr.heap.size, 0, none⟩ 2 2 (cellsOf [92, (s[k].toNat : Int)]) rfl rfl ?c1 ?c2 ?c3 ?c4 ?c5 ?_)
        case c1 => exact laid_cells wr [92, (s[k].toNat : Int)] _ rfl 5
        case c2 => exact cellsOf_one [92, (s[k].toNat : Int)]
        case c3 => unfold maxLen; omega
        case c4 => omega
        case c5 => simp; omega
        intro v2 w2 hown2 hgrow2 _
        have HP : Hid (Mid w.heap.size w olds s (k + 1) v2 w2) := Mid.step hlt HZS.out [92, (s[k].toNat : Int)] HX.out hown2 (((HBE.out trivial).alloc hsz _).grown hgrow2 (by simp; omega) (fun j hj => ((HOW.out trivial).lt j hj).1))
        clear hown2 hgrow2
        go_wp2
        go_roundw
        case rel => exact ⟨k + 1, v2, by omega, rfl, by go_num, HP⟩
        case measure => simp [intOf]; omega
      · have HX : Hid (esc (s[k].toNat : Int) = [92, (s[k].toNat : Int)]) := by rw [h]; rfl
        have q34 : ((s[k].toNat : Int) == 34) = false := beq_eq_false_iff_ne.2 (by omega)
        have q92 : ((s[k].toNat : Int) == 92) = true := beq_iff_eq.2 h
        have q8 : ((s[k].toNat : Int) == 8) = false := beq_eq_false_iff_ne.2 (by omega)
        have q12 : ((s[k].toNat : Int) == 12) = false := beq_eq_false_iff_ne.2 (by omega)
        have q10 : ((s[k].toNat : Int) == 10) = false := beq_eq_false_iff_ne.2 (by omega)
        have q13 : ((s[k].toNat : Int) == 13) = false := beq_eq_false_iff_ne.2 (by omega)
        have q9 : ((s[k].toNat : Int) == 9) = false := beq_eq_false_iff_ne.2 (by omega)
        have HE : Hid _ := h
        clear h
        go_wp2_with (at_builtin; refine wpList_append_own _ rfl _ _ 23 rfl w.heap.size 5 i0 (.int .u8 0) 1 1 Try.underlying23 hi hz0 hz1 hz2 rfl (by decide) _ _ (cellsOf zs) rfl ((HOW.out trivial).alloc _) ⟨wr.heap.size, 0, none⟩ 2 2 (cellsOf [92, (s[k].toNat : Int)]) rfl rfl ?c1 ?c2 ?c3 ?c4 ?c5 ?_)
        case c1 => exact laid_cells wr [92, (s[k].toNat : Int)] _ rfl 5
        case c2 => exact cellsOf_one [92, (s[k].toNat : Int)]
        case c3 => unfold maxLen; omega
        case c4 => omega
        case c5 => simp; omega
        intro v2 w2 hown2 hgrow2 _
        have HP : Hid (Mid w.heap.size w olds s (k + 1) v2 w2) := Mid.step hlt HZS.out [92, (s[k].toNat : Int)] HX.out hown2 (((HBE.out trivial).alloc hsz _).grown hgrow2 (by simp; omega) (fun j hj => ((HOW.out trivial).lt j hj).1))
        clear hown2 hgrow2
        go_wp2
        go_roundw
        case rel => exact ⟨k + 1, v2, by omega, rfl, by go_num, HP⟩
        case measure => simp [intOf]; omega
      · have HX : Hid (esc (s[k].toNat : Int) = [92, 98]) := by rw [h]; rfl
        have q34 : ((s[k].toNat : Int) == 34) = false := beq_eq_false_iff_ne.2 (by omega)
        have q92 : ((s[k].toNat : Int) == 92) = false := beq_eq_false_iff_ne.2 (by omega)
        have q8 : ((s[k].toNat : Int) == 8) = true := beq_iff_eq.2 h
        have q12 : ((s[k].toNat : Int) == 12) = false := beq_eq_false_iff_ne.2 (by omega)
        have q10 : ((s[k].toNat : Int) == 10) = false := beq_eq_false_iff_ne.2 (by omega)
        have q13 : ((s[k].toNat : Int) == 13) = false := beq_eq_false_iff_ne.2 (by omega)
        have q9 : ((s[k].toNat : Int) == 9) = false := beq_eq_false_iff_ne.2 (by omega)
        have HE : Hid _ := h
        clear h
        go_wp2_with (at_builtin; refine Lib.wpList_append_own_string _ rfl _ _ 23 9 rfl w.heap.size 5 i0 Try.underlying23 Try.underlying9 hi hz0 hz1 hz2 _ _ (cellsOf zs) rfl (HOW.out trivial) ⟨#[92, 98]⟩ rfl ?c3 ?c4 ?c5 ?_)
        case c3 => unfold maxLen; show zs.length + 2 ≤ _; omega
        case c4 => show zs.length + 2 ≤ _; omega
        case c5 => omega
        intro v2 w2 hown2 hgrow2 _
        have HP : Hid (Mid w.heap.size w olds s (k + 1) v2 w2) := Mid.step hlt HZS.out [92, 98] HX.out hown2 ((HBE.out trivial).grown hgrow2 hsz (fun j hj => ((HOW.out trivial).lt j hj).1))
        clear hown2 hgrow2
        go_wp2
        go_roundw
        case rel => exact ⟨k + 1, v2, by omega, rfl, by go_num, HP⟩
        case measure => simp [intOf]; omega
      · have HX : Hid (esc (s[k].toNat : Int) = [92, 102]) := by rw [h]; rfl
        have q34 : ((s[k].toNat : Int) == 34) = false := beq_eq_false_iff_ne.2 (by omega)
        have q92 : ((s[k].toNat : Int) == 92) = false := beq_eq_false_iff_ne.2 (by omega)
        have q8 : ((s[k].toNat : Int) == 8) = false := beq_eq_false_iff_ne.2 (by omega)
        have q12 : ((s[k].toNat : Int) == 12) = true := beq_iff_eq.2 h
        have q10 : ((s[k].toNat : Int) == 10) = false := beq_eq_false_iff_ne.2 (by omega)
        have q13 : ((s[k].toNat : Int) == 13) = false := beq_eq_false_iff_ne.2 (by omega)
        have q9 : ((s[k].toNat : Int) == 9) = false := beq_eq_false_iff_ne.2 (by omega)
        have HE : Hid _ := h
        clear h
        go_wp2_with (at_builtin; refine Lib.wpList_append_own_string _ rfl _ _ 23 9 rfl w.heap.size 5 i0 Try.underlying23 Try.underlying9 hi hz0 hz1 hz2 _ _ (cellsOf zs) rfl (HOW.out trivial) ⟨#[92, 102]⟩ rfl ?c3 ?c4 ?c5 ?_)
        case c3 => unfold maxLen; show zs.length + 2 ≤ _; omega
        case c4 => show zs.length + 2 ≤ _; omega
        case c5 => omega
        intro v2 w2 hown2 hgrow2 _
        have HP : Hid (Mid w.heap.size w olds s (k + 1) v2 w2) := Mid.step hlt HZS.out [92, 102] HX.out hown2 ((HBE.out trivial).grown hgrow2 hsz (fun j hj => ((HOW.out trivial).lt j hj).1))
        clear hown2 hgrow2
        go_wp2
        go_roundw
        case rel => exact ⟨k + 1, v2, by omega, rfl, by go_num, HP⟩
        case measure => simp [intOf]; omega
      · have HX : Hid (esc (s[k].toNat : Int) = [92, 110]) := by rw [h]; rfl
        have q34 : ((s[k].toNat : Int) == 34) = false := beq_eq_false_iff_ne.2 (by omega)
        have q92 : ((s[k].toNat : Int) == 92) = false := beq_eq_false_iff_ne.2 (by omega)
        have q8 : ((s[k].toNat : Int) == 8) = false := beq_eq_false_iff_ne.2 (by omega)
        have q12 : ((s[k].toNat : Int) == 12) = false := beq_eq_false_iff_ne.2 (by omega)
        have q10 : ((s[k].toNat : Int) == 10) = true := beq_iff_eq.2 h
        have q13 : ((s[k].toNat : Int) == 13) = false := beq_eq_false_iff_ne.2 (by omega)
        have q9 : ((s[k].toNat : Int) == 9) = false := beq_eq_false_iff_ne.2 (by omega)
        have HE : Hid _ := h
        clear h
        go_wp2_with (at_builtin; refine Lib.wpList_append_own_string _ rfl _ _ 23 9 rfl w.heap.size 5 i0 Try.underlying23 Try.underlying9 hi hz0 hz1 hz2 _ _ (cellsOf zs) rfl (HOW.out trivial) ⟨#[92, 110]⟩ rfl ?c3 ?c4 ?c5 ?_)
        case c3 => unfold maxLen; show zs.length + 2 ≤ _; omega
        case c4 => show zs.length + 2 ≤ _; omega
        case c5 => omega
        intro v2 w2 hown2 hgrow2 _
        have HP : Hid (Mid w.heap.size w olds s (k + 1) v2 w2) := Mid.step hlt HZS.out [92, 110] HX.out hown2 ((HBE.out trivial).grown hgrow2 hsz (fun j hj => ((HOW.out trivial).lt j hj).1))
        clear hown2 hgrow2
        go_wp2
        go_roundw
        case rel => exact ⟨k + 1, v2, by omega, rfl, by go_num, HP⟩
        case measure => simp [intOf]; omega
      · have HX : Hid (esc (s[k].toNat : Int) = [92, 114]) := by rw [h]; rfl
        have q34 : ((s[k].toNat : Int) == 34) = false := beq_eq_false_iff_ne.2 (by omega)
        have q92 : ((s[k].toNat : Int) == 92) = false := beq_eq_false_iff_ne.2 (by omega)
        have q8 : ((s[k].toNat : Int) == 8) = false := beq_eq_false_iff_ne.2 (by omega)
        have q12 : ((s[k].toNat : Int) == 12) = false := beq_eq_false_iff_ne.2 (by omega)
        have q10 : ((s[k].toNat : Int) == 10) = false := beq_eq_false_iff_ne.2 (by omega)
        have q13 : ((s[k].toNat : Int) == 13) = true := beq_iff_eq.2 h
        have q9 : ((s[k].toNat : Int) == 9) = false := beq_eq_false_iff_ne.2 (by omega)
        have HE : Hid _ := h
        clear h
        go_wp2_with (at_builtin; refine Lib.wpList_append_own_string _ rfl _ _ 23 9 rfl w.heap.size 5 i0 Try.underlying23 Try.underlying9 hi hz0 hz1 hz2 _ _ (cellsOf zs) rfl (HOW.out trivial) ⟨#[92, 114]⟩ rfl ?c3 ?c4 ?c5 ?_)
        case c3 => unfold maxLen; show zs.length + 2 ≤ _; omega
        case c4 => show zs.length + 2 ≤ _; omega
        case c5 => omega
        intro v2 w2 hown2 hgrow2 _
        have HP : Hid (Mid w.heap.size w olds s (k + 1) v2 w2) := Mid.step hlt HZS.out [92, 114] HX.out hown2 ((HBE.out trivial).grown hgrow2 hsz (fun j hj => ((HOW.out trivial).lt j hj).1))
        clear hown2 hgrow2
        go_wp2
        go_roundw
        case rel => exact ⟨k + 1, v2, by omega, rfl, by go_num, HP⟩
        case measure => simp [intOf]; omega
      · have HX : Hid (esc (s[k].toNat : Int) = [92, 116]) := by rw [h]; rfl
        have q34 : ((s[k].toNat : Int) == 34) = false := beq_eq_false_iff_ne.2 (by omega)
        have q92 : ((s[k].toNat : Int) == 92) = false := beq_eq_false_iff_ne.2 (by omega)
        have q8 : ((s[k].toNat : Int) == 8) = false := beq_eq_false_iff_ne.2 (by omega)
        have q12 : ((s[k].toNat : Int) == 12) = false := beq_eq_false_iff_ne.2 (by omega)
        have q10 : ((s[k].toNat : Int) == 10) = false := beq_eq_false_iff_ne.2 (by omega)
        have q13 : ((s[k].toNat : Int) == 13) = false := beq_eq_false_iff_ne.2 (by omega)
        have q9 : ((s[k].toNat : Int) == 9) = true := beq_iff_eq.2 h
        have HE : Hid _ := h
        clear h
        go_wp2_with (at_builtin; refine Lib.wpList_append_own_string _ rfl _ _ 23 9 rfl w.heap.size 5 i0 Try.underlying23 Try.underlying9 hi hz0 hz1 hz2 _ _ (cellsOf zs) rfl (HOW.out trivial) ⟨#[92, 116]⟩ rfl ?c3 ?c4 ?c5 ?_)
        case c3 => unfold maxLen; show zs.length + 2 ≤ _; omega
        case c4 => show zs.length + 2 ≤ _; omega
        case c5 => omega
        intro v2 w2 hown2 hgrow2 _
        have HP : Hid (Mid w.heap.size w olds s (k + 1) v2 w2) := Mid.step hlt HZS.out [92, 116] HX.out hown2 ((HBE.out trivial).grown hgrow2 hsz (fun j hj => ((HOW.out trivial).lt j hj).1))
        clear hown2 hgrow2
        go_wp2
        go_roundw
        case rel => exact ⟨k + 1, v2, by omega, rfl, by go_num, HP⟩
        case measure => simp [intOf]; omega
      · have HX : Hid (esc (s[k].toNat : Int) = [(s[k].toNat : Int)]) := by
          unfold Hid esc
          rw [if_neg (by omega), if_neg (by omega), if_neg (by omega), if_neg (by omega), if_neg (by omega), if_neg (by omega), if_neg (by omega)]
        have q34 : ((s[k].toNat : Int) == 34) = false := beq_eq_false_iff_ne.2 (by omega)
        have q92 : ((s[k].toNat : Int) == 92) = false := beq_eq_false_iff_ne.2 (by omega)
        have q8 : ((s[k].toNat : Int) == 8) = false := beq_eq_false_iff_ne.2 (by omega)
        have q12 : ((s[k].toNat : Int) == 12) = false := beq_eq_false_iff_ne.2 (by omega)
        have q10 : ((s[k].toNat : Int) == 10) = false := beq_eq_false_iff_ne.2 (by omega)
        have q13 : ((s[k].toNat : Int) == 13) = false := beq_eq_false_iff_ne.2 (by omega)
        have q9 : ((s[k].toNat : Int) == 9) = false := beq_eq_false_iff_ne.2 (by omega)
        obtain ⟨h32, _, _⟩ := h
        have d32 : decide ((s[k].toNat : Int) < 32) = false := decide_eq_false (by omega)
        go_wp2_with (at_builtin; refine wpList_append_own _ rfl _ _ 23 rfl w.heap.size 5 i0 (.int .u8 0) 1 1 Try.underlying23 hi hz0 hz1 hz2 rfl (by decide) _ _ (cellsOf zs) rfl ((HOW.out trivial).alloc _) ⟨wr.heap.size, 0, none⟩ 1 1 (cellsOf [(s[k].toNat : Int)]) rfl rfl ?c1 ?c2 ?c3 ?c4 ?c5 ?_)
        case c1 => exact laid_cells wr [(s[k].toNat : Int)] _ rfl 5
        case c2 => exact cellsOf_one [(s[k].toNat : Int)]
        case c3 => unfold maxLen; omega
        case c4 => omega
        case c5 => simp; omega
        intro v2 w2 hown2 hgrow2 _
        have HP : Hid (Mid w.heap.size w olds s (k + 1) v2 w2) := Mid.step hlt HZS.out [(s[k].toNat : Int)] HX.out hown2 (((HBE.out trivial).alloc hsz _).grown hgrow2 (by simp; omega) (fun j hj => ((HOW.out trivial).lt j hj).1))
        clear hown2 hgrow2
        go_wp2
        go_roundw
        case rel => exact ⟨k + 1, v2, by omega, rfl, by go_num, HP⟩
        case measure => simp [intOf]; omega
      · have HX : Hid (esc (s[k].toNat : Int) = [92, 117, 48, 48, hexd ((s[k].toNat : Int) / 16), hexd ((s[k].toNat : Int) % 16)]) := by
          unfold Hid esc
          rw [if_neg (by omega), if_neg (by omega), if_neg (by omega), if_neg (by omega), if_neg (by omega), if_neg (by omega), if_pos (by omega)]
        have q34 : ((s[k].toNat : Int) == 34) = false := beq_eq_false_iff_ne.2 (by omega)
        have q92 : ((s[k].toNat : Int) == 92) = false := beq_eq_false_iff_ne.2 (by omega)
        have q8 : ((s[k].toNat : Int) == 8) = false := beq_eq_false_iff_ne.2 (by omega)
        have q12 : ((s[k].toNat : Int) == 12) = false := beq_eq_false_iff_ne.2 (by omega)
        have q10 : ((s[k].toNat : Int) == 10) = false := beq_eq_false_iff_ne.2 (by omega)
        have q13 : ((s[k].toNat : Int) == 13) = false := beq_eq_false_iff_ne.2 (by omega)
        have q9 : ((s[k].toNat : Int) == 9) = false := beq_eq_false_iff_ne.2 (by omega)
        obtain ⟨h32, _, _, _, _, _⟩ := h
        have x1 : (0 : Int) ≤ (s[k].toNat : Int) / 16 := by omega
        have x2 : (s[k].toNat : Int) / 16 < 16 := by omega
        have y1 : (0 : Int) ≤ (s[k].toNat : Int) % 16 := by omega
        have y2 : (s[k].toNat : Int) % 16 < 16 := by omega
        have ya : bits BinOp.and IntKind.u8 (s[k].toNat : Int) 15 = (s[k].toNat : Int) % 16 := and15 _ (by omega)
        go_wp2_with fail
        go_region_law ((refine step_append_own rfl _ _ 23 rfl w.heap.size 5 i0 (.int .u8 0) 1 1 Try.underlying23 hi hz0 hz1 hz2 rfl (by decide) _ zs.length (cellsOf zs) rfl ?ow ⟨wr.heap.size, 0, none⟩ 6 6 (cellsOf [92, 117, 48, 48, (((hexB[((s[k].toNat : Int) / 16).toNat]'(hexlt x1 x2)).toNat : Nat) : Int), (((hexB[((s[k].toNat : Int) % 16).toNat]'(hexlt y1 y2)).toNat : Nat) : Int)]) rfl rfl ?cc (cellsOf_one _) ?c3 ?c4 ?c5 ?_); (case ow => exact (World.ownsRow.alloc (HOW.out trivial) _).drew); (case cc => exact laid_cells wr [92, 117, 48, 48, (((hexB[((s[k].toNat : Int) / 16).toNat]'(hexlt x1 x2)).toNat : Nat) : Int), (((hexB[((s[k].toNat : Int) % 16).toNat]'(hexlt y1 y2)).toNat : Nat) : Int)] _ rfl 5); (case c3 => unfold maxLen; omega); (case c4 => omega); (case c5 => simp; omega); intro v2 w2 hown2 hgrow2)
        all_goals
          have HP : Hid (Mid w.heap.size w olds s (k + 1) v2 w2) := Mid.step hlt HZS.out _ (by rw [HX.out, hex_at x1 x2, hex_at y1 y2]) hown2 ((((HBE.out trivial).alloc hsz _).drew).grown hgrow2 (by simp; omega) (fun j hj => ((HOW.out trivial).lt j hj).1))
          clear hown2 hgrow2
          go_wp2
          go_roundw
          case rel => exact ⟨k + 1, v2, by omega, rfl, by go_num, HP⟩
          case measure => simp [intOf]; omega
    · go_wp2_with (at_builtin; refine wpList_append_own _ rfl _ _ 23 rfl w.heap.size 5 i0 (.int .u8 0) 1 1 Try.underlying23 hi hz0 hz1 hz2 rfl (by decide) _ _ (cellsOf zs) rfl ((HOW.out trivial).alloc _) ⟨wr.heap.size, 0, none⟩ 1 1 (cellsOf [34]) rfl rfl ?c1 ?c2 ?c3 ?c4 ?c5 ?_)
      case c1 => exact laid_cells wr [34] _ rfl 5
      case c2 => exact cellsOf_one [34]
      case c3 => unfold maxLen; omega
      case c4 => omega
      case c5 => simp; omega
      intro v2 w2 hown2 hgrow2 _
      have HF : Hid (olds ++ quote s.data.toList = zs ++ [34]) := by
        have hkk : k = s.size := by omega
        have := HZS.out
        rw [hkk, List.take_of_length_le (by simp)] at this
        unfold Hid
        rw [this]
        unfold quote
        simp
      have HP : Hid (w2.ownsRow w.heap.size 5 1 v2 (olds ++ quote s.data.toList).length (cellsOf (olds ++ quote s.data.toList)) ∧ Below w.heap.size w w2) := by
        refine ⟨?_, ?_⟩
        · rw [HF.out, cellsOf_append, List.length_append]
          exact hown2
        · exact ((HBE.out trivial).alloc hsz _).grown hgrow2 (by simp; omega) (fun j hj => ((HOW.out trivial).lt j hj).1)
      clear hown2 hgrow2
      go_wp2
      go_ret
      exact ⟨v2, rfl, HP.out⟩
end Go.Proofs.Qxb6601343a.App
