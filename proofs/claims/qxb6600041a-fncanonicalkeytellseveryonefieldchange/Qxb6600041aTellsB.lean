/-
  THE WALK of FnCanonicalKeyTellsEveryOneFieldChange, every text short.
-/
import Derived.Test.Qxb6600041aTellsA
namespace Go.Proofs.Qxb6600041a.Key
open Go.ChangeShapes Go.WideShapes Go.ChangeAt Go.RowKit

theorem bcell {W w1 : World} (hb : Below W.heap.size W w1) : (∀ b o, b < W.heap.size → w1.cell? ⟨b, o, none⟩ = W.cell? ⟨b, o, none⟩) ∧ (∀ b o, b < W.heap.size → w1.frozen? ⟨b, o, none⟩ = W.frozen? ⟨b, o, none⟩) :=
  ⟨fun b o h => hb.cell (p := ⟨b, o, none⟩) h, fun b o h => hb.frozen (p := ⟨b, o, none⟩) h⟩

/-- The key's text under a name. -/
theorem key_some (f u b o n r p ns k wn c : ByteArray) (w : World) (hu : u.size ≤ 65536) (hb : b.size ≤ 65536) (ho : o.size ≤ 65536) (hn : n.size ≤ 65536) (hr : r.size ≤ 65536) (hns : ns.size ≤ 65536) (hk : k.size ≤ 65536) (hwn : wn.size ≤ 65536) :
    Calls Try.prog 16 #[.agg #[.string f, .string u, .string b, .string o, .string n, .string r, .string p, .string ns, .string k, .string wn, .string c]] w fun e w' =>
      ∃ X : List UInt8, Hid (X = key (explicit f.data.toList) u.data.toList b.data.toList o.data.toList n.data.toList r.data.toList ns.data.toList k.data.toList wn.data.toList) ∧ e = .returned (.string ⟨X.toArray⟩) ∧ Below w.heap.size w w' :=
  (key_any f u b o n r p ns k wn c w hu hb ho hn hr hns hk hwn).mono fun _ _ h => ⟨_, rfl, h.1, h.2⟩
theorem ret_tells {x y X Y : List UInt8} {same : Bool} (h : Tells x y same) (hX : X = x) (hY : Y = y) : Ending.returned (.bool ((X == Y) == same)) = .returned (.bool true) := by
  subst hX hY
  rw [show (X == Y) = same from h]
  simp
theorem two_below {w w1 w2 : World} {o1 o2 o3 o4 : Obj} (h1 : Below ((((w.alloc o1).alloc o2).alloc o3).alloc o4).drew.heap.size ((((w.alloc o1).alloc o2).alloc o3).alloc o4).drew w1) (h2 : Below w1.heap.size w1 w2) : Below w.heap.size w w2 := by
  have hs := h1.size
  have hz : ((((w.alloc o1).alloc o2).alloc o3).alloc o4).drew.heap.size = w.heap.size + 4 := by simp
  have h0 : Below w.heap.size w ((((w.alloc o1).alloc o2).alloc o3).alloc o4).drew :=
    (((((Below.refl _ _).alloc (Nat.le_refl _) _).alloc (by simp) _).alloc (by simp; omega) _).alloc (by simp; omega) _).drew
  exact (h0.trans (h1.mono (by omega))).trans (h2.mono (by omega))

set_option maxRecDepth 100000 in
set_option maxHeartbeats 4000000 in
theorem tells_short (a0 : Int) (a1 a2 a3 a4 a5 a6 a7 a8 a9 a10 a11 : ByteArray) (w : World) (h1 : a1.size ≤ 65536) (h2 : a2.size ≤ 65536) (h3 : a3.size ≤ 65536) (h4 : a4.size ≤ 65536) (h5 : a5.size ≤ 65536) (h6 : a6.size ≤ 65536) (h7 : a7.size ≤ 65536) (h8 : a8.size ≤ 65536) (h9 : a9.size ≤ 65536) (h10 : a10.size ≤ 65536) (h11 : a11.size ≤ 65536) :
    Calls Try.prog 7 #[.int .u8 a0, .string a1, .string a2, .string a3, .string a4, .string a5, .string a6, .string a7, .string a8, .string a9, .string a10, .string a11] w fun e w' => e = .returned (.bool true) ∧ Below w.heap.size w w' := by
  have HZ : Hid _ := fun w => bytes17 a0 a1 a2 a3 a4 a5 a6 a7 a8 a9 a10 a11 w (by unfold maxLen; omega) (by unfold maxLen; omega) (by unfold maxLen; omega) (by unfold maxLen; omega) (by unfold maxLen; omega) (by unfold maxLen; omega) (by unfold maxLen; omega) (by unfold maxLen; omega) (by unfold maxLen; omega) (by unfold maxLen; omega) (by unfold maxLen; omega)
  go_enter Try.func7, Try.ntmps7
  go_upto_block 0 with (go_at_call 17; refine (HZ.out _).mono ?_; rintro e w' ⟨v, rfl, rfl⟩; clear HZ; cases v)
  · go_ret
    exact ⟨rfl, Below.refl _ _⟩
  generalize bits BinOp.and IntKind.u8 a0 7 = q
  have hlen := And.intro h1 h2
  clear hlen
  go_cut [25, 26, 27, 28, 29, 30, 31, 32, 33] (fun s25 s26 s27 s28 s29 s30 s31 s32 s33 wx => ∃ (b2 b3 b4 b5 b6 b8 b9 b10 : ByteArray) (same : Bool), wx = w' ∧ s25 = .string b2 ∧ s26 = .string b3 ∧ s27 = .string b4 ∧ s28 = .string b5 ∧ s29 = .string b6 ∧ s30 = .string b8 ∧ s31 = .string b9 ∧ s32 = .string b10 ∧ s33 = .bool same
    ∧ b2.size ≤ 65536 ∧ b3.size ≤ 65536 ∧ b4.size ≤ 65536 ∧ b5.size ≤ 65536 ∧ b6.size ≤ 65536 ∧ b8.size ≤ 65536 ∧ b9.size ≤ 65536 ∧ b10.size ≤ 65536
    ∧ Hid (Tells (key true a2.data.toList a3.data.toList a4.data.toList a5.data.toList a6.data.toList a8.data.toList a9.data.toList a10.data.toList) (key true b2.data.toList b3.data.toList b4.data.toList b5.data.toList b6.data.toList b8.data.toList b9.data.toList b10.data.toList) same))
  case first =>
    go_wp2_with fail
    · go_meet
      exact ⟨a1, a3, a4, a5, a6, a8, a9, a10, _, rfl, rfl, rfl, rfl, rfl, rfl, rfl, rfl, rfl, rfl, h1, h3, h4, h5, h6, h8, h9, h10, tells_u true a2 a3 a4 a5 a6 a8 a9 a10 a1⟩
    · go_meet
      exact ⟨a2, a1, a4, a5, a6, a8, a9, a10, _, rfl, rfl, rfl, rfl, rfl, rfl, rfl, rfl, rfl, rfl, h2, h1, h4, h5, h6, h8, h9, h10, tells_b a2 a3 a4 a5 a6 a8 a9 a10 a1⟩
    · go_meet
      exact ⟨a2, a3, a1, a5, a6, a8, a9, a10, _, rfl, rfl, rfl, rfl, rfl, rfl, rfl, rfl, rfl, rfl, h2, h3, h1, h5, h6, h8, h9, h10, tells_o true a2 a3 a4 a5 a6 a8 a9 a10 a1⟩
    · go_meet
      exact ⟨a2, a3, a4, a1, a6, a8, a9, a10, _, rfl, rfl, rfl, rfl, rfl, rfl, rfl, rfl, rfl, rfl, h2, h3, h4, h1, h6, h8, h9, h10, tells_n true a2 a3 a4 a5 a6 a8 a9 a10 a1⟩
    · go_meet
      exact ⟨a2, a3, a4, a5, a1, a8, a9, a10, _, rfl, rfl, rfl, rfl, rfl, rfl, rfl, rfl, rfl, rfl, h2, h3, h4, h5, h1, h8, h9, h10, tells_r true a2 a3 a4 a5 a6 a8 a9 a10 a1⟩
    · go_meet
      exact ⟨a2, a3, a4, a5, a6, a1, a9, a10, _, rfl, rfl, rfl, rfl, rfl, rfl, rfl, rfl, rfl, rfl, h2, h3, h4, h5, h6, h1, h9, h10, tells_ns true a2 a3 a4 a5 a6 a8 a9 a10 a1⟩
    · go_meet
      exact ⟨a2, a3, a4, a5, a6, a8, a1, a10, _, rfl, rfl, rfl, rfl, rfl, rfl, rfl, rfl, rfl, rfl, h2, h3, h4, h5, h6, h8, h1, h10, tells_k true a2 a3 a4 a5 a6 a8 a9 a10 a1⟩
    · go_meet
      exact ⟨a2, a3, a4, a5, a6, a8, a9, a1, _, rfl, rfl, rfl, rfl, rfl, rfl, rfl, rfl, rfl, rfl, h2, h3, h4, h5, h6, h8, h9, h1, tells_wn true a2 a3 a4 a5 a6 a8 a9 a10 a1⟩
  case rest =>
    obtain ⟨b2, b3, b4, b5, b6, b8, b9, b10, same, rfl, rfl, rfl, rfl, rfl, rfl, rfl, rfl, rfl, rfl, g2, g3, g4, g5, g6, g8, g9, g10, ht⟩ := hcut
    go_upto_region 38 with (go_at_call 15; refine (req_any _ _ _ _ _ _ _ _ _ _ _ _).mono ?_; rintro e w2 ⟨rfl, rfl⟩)
    clear h1
    go_region_with (go_at_call 16; refine (key_some _ _ _ _ _ _ _ _ _ _ _ _ (by assumption) (by assumption) (by assumption) (by assumption) (by assumption) (by assumption) (by assumption) (by assumption)).mono ?_; rintro e w2 ⟨X, hX, rfl, hb⟩; obtain ⟨hc, hf⟩ := bcell hb)
    all_goals go_wp2
    all_goals go_ret
    all_goals
      rename_i w1 X1 hX1 hb1 _ _
      refine ⟨?_, ?_⟩
      · exact ret_tells ht.out hX1.out hX.out
      · exact two_below hb1 hb

/-- THE LAW's WALK. -/
theorem tells_walk (a0 : Int) (a1 a2 a3 a4 a5 a6 a7 a8 a9 a10 a11 : ByteArray) (w : World) (h1 : a1.size ≤ maxLen) (h2 : a2.size ≤ maxLen) (h3 : a3.size ≤ maxLen) (h4 : a4.size ≤ maxLen) (h5 : a5.size ≤ maxLen) (h6 : a6.size ≤ maxLen) (h7 : a7.size ≤ maxLen) (h8 : a8.size ≤ maxLen) (h9 : a9.size ≤ maxLen) (h10 : a10.size ≤ maxLen) (h11 : a11.size ≤ maxLen) :
    Calls Try.prog 7 #[.int .u8 a0, .string a1, .string a2, .string a3, .string a4, .string a5, .string a6, .string a7, .string a8, .string a9, .string a10, .string a11] w fun e w' => e = .returned (.bool true) ∧ Below w.heap.size w w' := by
  by_cases h : a1.size ≤ 65536 ∧ a2.size ≤ 65536 ∧ a3.size ≤ 65536 ∧ a4.size ≤ 65536 ∧ a5.size ≤ 65536 ∧ a6.size ≤ 65536 ∧ a7.size ≤ 65536 ∧ a8.size ≤ 65536 ∧ a9.size ≤ 65536 ∧ a10.size ≤ 65536 ∧ a11.size ≤ 65536
  · obtain ⟨g1, g2, g3, g4, g5, g6, g7, g8, g9, g10, g11⟩ := h
    exact tells_short a0 a1 a2 a3 a4 a5 a6 a7 a8 a9 a10 a11 w g1 g2 g3 g4 g5 g6 g7 g8 g9 g10 g11
  · refine (tells_long a0 a1 a2 a3 a4 a5 a6 a7 a8 a9 a10 a11 w h1 h2 h3 h4 h5 h6 h7 h8 h9 h10 h11 h).mono ?_
    rintro e w' ⟨rfl, rfl⟩
    exact ⟨rfl, Below.refl _ _⟩
end Go.Proofs.Qxb6600041a.Key
