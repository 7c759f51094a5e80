/-
  PLAIN: the nine-state automaton of a JSON number and the reader by parts answer alike. No Go text here.
-/
namespace Go.Proofs.Qxb6600169a.Num

/-- The class of a byte: minus, zero, another digit, point, e, plus, none of these. -/
def cl (c : Int) : Nat := if c = 45 then 0 else if c = 48 then 1 else if 49 ≤ c ∧ c ≤ 57 then 2 else if c = 46 then 3 else if c = 101 ∨ c = 69 then 4 else if c = 43 then 5 else 6
/-- The automaton's table: -1: no transition. -/
def tbl : Nat → Nat → Int
  | 0, 0 => 1
  | 0, 1 => 3
  | 0, 2 => 2
  | 1, 1 => 3
  | 1, 2 => 2
  | 2, 1 => 2
  | 2, 2 => 2
  | 2, 3 => 4
  | 2, 4 => 6
  | 3, 3 => 4
  | 3, 4 => 6
  | 4, 1 => 5
  | 4, 2 => 5
  | 5, 1 => 5
  | 5, 2 => 5
  | 5, 4 => 6
  | 6, 0 => 7
  | 6, 5 => 7
  | 6, 1 => 8
  | 6, 2 => 8
  | 7, 1 => 8
  | 7, 2 => 8
  | 8, 1 => 8
  | 8, 2 => 8
  | _, _ => -1
def acc (s : Nat) : Bool := s == 2 || s == 3 || s == 5 || s == 8
def fin (s k : Nat) : Nat × Bool := if acc s = true then (k, true) else (0, false)

def z (zs : List Int) (k : Nat) : Int := zs.getD k 0

def aut (zs : List Int) : Nat → Nat → Nat → Nat × Bool
  | 0, s, k => fin s k
  | f + 1, s, k => if tbl s (cl (z zs k)) < 0 then fin s k else aut zs f (tbl s (cl (z zs k))).toNat (k + 1)
/-- The automaton from state s at place k. -/
def A (zs : List Int) (s k : Nat) : Nat × Bool := aut zs (zs.length - k) s k
theorem A_stop {zs : List Int} {s k : Nat} (h : zs.length ≤ k) : A zs s k = fin s k := by
  unfold A
  rw [Nat.sub_eq_zero_of_le h]
  rfl
theorem A_dead {zs : List Int} {s k : Nat} (h : k < zs.length) (ht : tbl s (cl (z zs k)) < 0) : A zs s k = fin s k := by
  unfold A
  obtain ⟨f, hf⟩ : ∃ f, zs.length - k = f + 1 := ⟨zs.length - k - 1, by omega⟩
  rw [hf, aut, if_pos ht]
theorem A_go {zs : List Int} {s k t : Nat} (h : k < zs.length) (ht : tbl s (cl (z zs k)) = (t : Int)) : A zs s k = A zs t (k + 1) := by
  unfold A
  obtain ⟨f, hf⟩ : ∃ f, zs.length - k = f + 1 := ⟨zs.length - k - 1, by omega⟩
  rw [hf, aut, if_neg (by omega), ht, show zs.length - (k + 1) = f by omega]
  rfl

abbrev dig (c : Int) : Prop := 48 ≤ c ∧ c ≤ 57

def Dn (zs : List Int) : Nat → Nat → Nat
  | 0, k => k
  | f + 1, k => if dig (z zs k) then Dn zs f (k + 1) else k
/-- The first place from k on that holds no digit. -/
def D (zs : List Int) (k : Nat) : Nat := Dn zs (zs.length - k) k
theorem D_stop {zs : List Int} {k : Nat} (h : zs.length ≤ k) : D zs k = k := by
  unfold D
  rw [Nat.sub_eq_zero_of_le h]
  rfl
theorem D_no {zs : List Int} {k : Nat} (h : ¬ dig (z zs k)) : D zs k = k := by
  unfold D
  cases zs.length - k with
  | zero => rfl
  | succ f => rw [Dn, if_neg h]
theorem D_yes {zs : List Int} {k : Nat} (hk : k < zs.length) (h : dig (z zs k)) : D zs k = D zs (k + 1) := by
  unfold D
  obtain ⟨f, hf⟩ : ∃ f, zs.length - k = f + 1 := ⟨zs.length - k - 1, by omega⟩
  rw [hf, Dn, if_pos h, show zs.length - (k + 1) = f by omega]
theorem D_props (zs : List Int) : ∀ (m k : Nat), zs.length - k = m → k ≤ D zs k ∧ (k ≤ zs.length → D zs k ≤ zs.length) ∧ ¬ (D zs k < zs.length ∧ dig (z zs (D zs k)))
  | 0, k, h => by
    rw [D_stop (by omega)]
    exact ⟨Nat.le_refl _, fun h => h, by omega⟩
  | m + 1, k, h => by
    by_cases hd : dig (z zs k)
    · rw [D_yes (by omega) hd]
      obtain ⟨a, b, c⟩ := D_props zs m (k + 1) (by omega)
      exact ⟨by omega, fun _ => b (by omega), c⟩
    · rw [D_no hd]
      exact ⟨Nat.le_refl _, fun h => h, fun h => hd h.2⟩
theorem D_ge (zs : List Int) (k : Nat) : k ≤ D zs k := (D_props zs _ k rfl).1
theorem D_le {zs : List Int} {k : Nat} (h : k ≤ zs.length) : D zs k ≤ zs.length := (D_props zs _ k rfl).2.1 h
theorem D_end (zs : List Int) (k : Nat) : ¬ (D zs k < zs.length ∧ dig (z zs (D zs k))) := (D_props zs _ k rfl).2.2

/-! ### The reader by parts -/
def sgn (zs : List Int) (k : Nat) : Nat := if k < zs.length ∧ (z zs k = 43 ∨ z zs k = 45) then k + 1 else k
def digs (zs : List Int) (k : Nat) : Nat × Bool := if k < D zs k then (D zs k, true) else (0, false)
def numE (zs : List Int) (k : Nat) : Nat × Bool := if k < zs.length ∧ (z zs k = 101 ∨ z zs k = 69) then digs zs (sgn zs (k + 1)) else (k, true)
def numF (zs : List Int) (k : Nat) : Nat × Bool := if k < zs.length ∧ z zs k = 46 then (if k + 1 < D zs (k + 1) then numE zs (D zs (k + 1)) else (0, false)) else numE zs k
def numI (zs : List Int) (k : Nat) : Nat × Bool := if k < zs.length ∧ z zs k = 48 then numF zs (k + 1) else (if k < D zs k then numF zs (D zs k) else (0, false))
def num (zs : List Int) (i : Nat) : Nat × Bool := if z zs i = 45 then numI zs (i + 1) else numI zs i

/-! ### The classes -/
theorem cl_dig {c : Int} (h : dig c) : cl c = 1 ∨ cl c = 2 := by
  unfold dig at h; unfold cl
  by_cases h1 : c = 48
  · left; rw [if_neg (by omega), if_pos h1]
  · right; rw [if_neg (by omega), if_neg h1, if_pos (by omega)]
theorem cl_48 {c : Int} (h : c = 48) : cl c = 1 := by subst h; rfl
theorem cl_19 {c : Int} (h : dig c) (h2 : c ≠ 48) : cl c = 2 := by
  unfold dig at h; unfold cl
  rw [if_neg (by omega), if_neg h2, if_pos (by omega)]
theorem cl_45 {c : Int} (h : c = 45) : cl c = 0 := by subst h; rfl
theorem cl_46 {c : Int} (h : c = 46) : cl c = 3 := by subst h; rfl
theorem cl_e {c : Int} (h : c = 101 ∨ c = 69) : cl c = 4 := by rcases h with rfl | rfl <;> rfl
theorem cl_43 {c : Int} (h : c = 43) : cl c = 5 := by subst h; rfl
theorem cl_no {c : Int} (h1 : c ≠ 45) (h2 : ¬ dig c) (h3 : c ≠ 46) (h4 : ¬ (c = 101 ∨ c = 69)) (h5 : c ≠ 43) : cl c = 6 := by
  unfold dig at h2; unfold cl
  rw [if_neg h1, if_neg (by omega), if_neg (by omega), if_neg h3, if_neg h4, if_neg h5]

theorem A_run {zs : List Int} {s : Nat} (h1 : tbl s 1 = (s : Int)) (h2 : tbl s 2 = (s : Int)) : ∀ (m k : Nat), zs.length - k = m → A zs s k = A zs s (D zs k)
  | 0, k, h => by rw [D_stop (by omega)]
  | m + 1, k, h => by
    by_cases hd : dig (z zs k)
    · rw [D_yes (by omega) hd, ← A_run h1 h2 m (k + 1) (by omega)]
      refine A_go (by omega) ?_
      rcases cl_dig hd with e | e <;> rw [e]
      · exact h1
      · exact h2
    · rw [D_no hd]

theorem fin2 (k : Nat) : fin 2 k = (k, true) := rfl
theorem A8 (zs : List Int) (k : Nat) : A zs 8 k = (D zs k, true) := by
  rw [A_run rfl rfl _ k rfl]
  have he := D_end zs k
  by_cases h : D zs k < zs.length
  · have hd : ¬ dig (z zs (D zs k)) := fun x => he ⟨h, x⟩
    rw [A_dead h]
    · rfl
    · have hc : ∀ j, tbl 8 j < 0 ∨ j = 1 ∨ j = 2 := fun j => by
        match j with
        | 0 => left; decide
        | 1 => right; left; rfl
        | 2 => right; right; rfl
        | j + 3 => left; exact (by decide : (-1 : Int) < 0)
      rcases hc (cl (z zs (D zs k))) with e | e | e
      · exact e
      · exact absurd (dig_of e) hd
      · exact absurd (dig_of' e) hd
  · rw [A_stop (by omega)]; rfl
where
  dig_of {c : Int} (h : cl c = 1) : dig c := by
    unfold cl at h; unfold dig
    split at h
    · omega
    split at h
    · omega
    split at h
    · omega
    split at h
    · omega
    split at h
    · omega
    split at h <;> omega
  dig_of' {c : Int} (h : cl c = 2) : dig c := by
    unfold cl at h; unfold dig
    split at h
    · omega
    split at h
    · omega
    split at h
    · omega
    split at h
    · omega
    split at h
    · omega
    split at h <;> omega

/-- At a place that holds no digit, or behind the end, every state whose only other way is 'e' reads the exponent. -/
theorem A7 (zs : List Int) (k : Nat) : A zs 7 k = digs zs k := by
  unfold digs
  by_cases h : k < zs.length
  · by_cases hd : dig (z zs k)
    · have hg := D_ge zs (k + 1)
      rw [D_yes h hd, if_pos (by omega), ← A8]
      refine A_go h ?_
      rcases cl_dig hd with e | e <;> rw [e] <;> rfl
    · rw [D_no hd, if_neg (by omega), A_dead h]
      · rfl
      · by_cases h0 : z zs k = 45
        · rw [cl_45 h0]; decide
        by_cases h3 : z zs k = 46
        · rw [cl_46 h3]; decide
        by_cases h4 : z zs k = 101 ∨ z zs k = 69
        · rw [cl_e h4]; decide
        by_cases h5 : z zs k = 43
        · rw [cl_43 h5]; decide
        rw [cl_no h0 hd h3 h4 h5]; decide
  · rw [D_stop (by omega), if_neg (by omega), A_stop (by omega)]; rfl
theorem A6 (zs : List Int) (k : Nat) : A zs 6 k = digs zs (sgn zs k) := by
  unfold sgn
  by_cases hs : k < zs.length ∧ (z zs k = 43 ∨ z zs k = 45)
  · rw [if_pos hs, ← A7]
    refine A_go hs.1 ?_
    rcases hs.2 with e | e
    · rw [cl_43 e]; rfl
    · rw [cl_45 e]; rfl
  · rw [if_neg hs]
    unfold digs
    by_cases h : k < zs.length
    · have n43 : z zs k ≠ 43 := fun e => hs ⟨h, Or.inl e⟩
      have n45 : z zs k ≠ 45 := fun e => hs ⟨h, Or.inr e⟩
      by_cases hd : dig (z zs k)
      · have hg := D_ge zs (k + 1)
        rw [D_yes h hd, if_pos (by omega), ← A8]
        refine A_go h ?_
        rcases cl_dig hd with e | e <;> rw [e] <;> rfl
      · rw [D_no hd, if_neg (by omega), A_dead h]
        · rfl
        · by_cases h3 : z zs k = 46
          · rw [cl_46 h3]; decide
          by_cases h4 : z zs k = 101 ∨ z zs k = 69
          · rw [cl_e h4]; decide
          rw [cl_no n45 hd h3 h4 n43]; decide
    · rw [D_stop (by omega), if_neg (by omega), A_stop (by omega)]; rfl
theorem A5 {zs : List Int} {k : Nat} (he : ¬ (k < zs.length ∧ dig (z zs k))) : A zs 5 k = numE zs k := by
  unfold numE
  by_cases h : k < zs.length
  · have hd : ¬ dig (z zs k) := fun x => he ⟨h, x⟩
    by_cases h4 : z zs k = 101 ∨ z zs k = 69
    · rw [if_pos ⟨h, h4⟩, ← A6]
      exact A_go h (by rw [cl_e h4]; rfl)
    · rw [if_neg (fun x => h4 x.2), A_dead h]
      · rfl
      · by_cases h0 : z zs k = 45
        · rw [cl_45 h0]; decide
        by_cases h3 : z zs k = 46
        · rw [cl_46 h3]; decide
        by_cases h5 : z zs k = 43
        · rw [cl_43 h5]; decide
        rw [cl_no h0 hd h3 h4 h5]; decide
  · rw [if_neg (fun x => h x.1), A_stop (by omega)]; rfl
theorem A4 (zs : List Int) (k : Nat) : A zs 4 k = if k < D zs k then numE zs (D zs k) else (0, false) := by
  by_cases h : k < zs.length
  · by_cases hd : dig (z zs k)
    · have hg := D_ge zs (k + 1)
      rw [D_yes h hd, if_pos (by omega), ← A5 (D_end zs (k + 1)), ← A_run rfl rfl _ (k + 1) rfl]
      refine A_go h ?_
      rcases cl_dig hd with e | e <;> rw [e] <;> rfl
    · rw [D_no hd, if_neg (by omega), A_dead h]
      · rfl
      · by_cases h0 : z zs k = 45
        · rw [cl_45 h0]; decide
        by_cases h3 : z zs k = 46
        · rw [cl_46 h3]; decide
        by_cases h4 : z zs k = 101 ∨ z zs k = 69
        · rw [cl_e h4]; decide
        by_cases h5 : z zs k = 43
        · rw [cl_43 h5]; decide
        rw [cl_no h0 hd h3 h4 h5]; decide
  · rw [D_stop (by omega), if_neg (by omega), A_stop (by omega)]; rfl
theorem A3 (zs : List Int) (k : Nat) : A zs 3 k = numF zs k := by
  unfold numF
  by_cases h : k < zs.length
  · by_cases h3 : z zs k = 46
    · rw [if_pos ⟨h, h3⟩, ← A4]
      exact A_go h (by rw [cl_46 h3]; rfl)
    · rw [if_neg (fun x => h3 x.2)]
      unfold numE
      by_cases h4 : z zs k = 101 ∨ z zs k = 69
      · rw [if_pos ⟨h, h4⟩, ← A6]
        exact A_go h (by rw [cl_e h4]; rfl)
      · rw [if_neg (fun x => h4 x.2), A_dead h]
        · rfl
        · by_cases h0 : z zs k = 45
          · rw [cl_45 h0]; decide
          by_cases hd : dig (z zs k)
          · rcases cl_dig hd with e | e <;> rw [e] <;> decide
          by_cases h5 : z zs k = 43
          · rw [cl_43 h5]; decide
          rw [cl_no h0 hd h3 h4 h5]; decide
  · rw [if_neg (fun x => h x.1)]
    unfold numE
    rw [if_neg (fun x => h x.1), A_stop (by omega)]; rfl
theorem A2 {zs : List Int} {k : Nat} (he : ¬ (k < zs.length ∧ dig (z zs k))) : A zs 2 k = numF zs k := by
  unfold numF
  by_cases h : k < zs.length
  · have hd : ¬ dig (z zs k) := fun x => he ⟨h, x⟩
    by_cases h3 : z zs k = 46
    · rw [if_pos ⟨h, h3⟩, ← A4]
      exact A_go h (by rw [cl_46 h3]; rfl)
    · rw [if_neg (fun x => h3 x.2)]
      unfold numE
      by_cases h4 : z zs k = 101 ∨ z zs k = 69
      · rw [if_pos ⟨h, h4⟩, ← A6]
        exact A_go h (by rw [cl_e h4]; rfl)
      · rw [if_neg (fun x => h4 x.2), A_dead h]
        · rfl
        · by_cases h0 : z zs k = 45
          · rw [cl_45 h0]; decide
          by_cases h5 : z zs k = 43
          · rw [cl_43 h5]; decide
          rw [cl_no h0 hd h3 h4 h5]; decide
  · rw [if_neg (fun x => h x.1)]
    unfold numE
    rw [if_neg (fun x => h x.1), A_stop (by omega)]; rfl
theorem A_int {zs : List Int} {s k : Nat} (hs : s = 0 ∧ z zs k ≠ 45 ∨ s = 1) : A zs s k = numI zs k := by
  have t1 : tbl s 1 = 3 := by rcases hs with ⟨rfl, _⟩ | rfl <;> rfl
  have t2 : tbl s 2 = 2 := by rcases hs with ⟨rfl, _⟩ | rfl <;> rfl
  have t3 : tbl s 3 < 0 ∧ tbl s 4 < 0 ∧ tbl s 5 < 0 ∧ tbl s 6 < 0 := by rcases hs with ⟨rfl, _⟩ | rfl <;> decide
  have hf : fin s k = (0, false) := by rcases hs with ⟨rfl, _⟩ | rfl <;> rfl
  have t0 : z zs k = 45 → tbl s 0 < 0 := fun h => by rcases hs with ⟨rfl, h'⟩ | rfl; exact absurd h h'; decide
  unfold numI
  by_cases h : k < zs.length
  · by_cases h48 : z zs k = 48
    · rw [if_pos ⟨h, h48⟩, ← A3]
      exact A_go h (by rw [cl_48 h48, t1]; rfl)
    · rw [if_neg (fun x => h48 x.2)]
      by_cases hd : dig (z zs k)
      · have hg := D_ge zs (k + 1)
        rw [D_yes h hd, if_pos (by omega), ← A2 (D_end zs (k + 1)), ← A_run rfl rfl _ (k + 1) rfl]
        exact A_go h (by rw [cl_19 hd h48, t2]; rfl)
      · rw [D_no hd, if_neg (by omega), A_dead h, hf]
        by_cases h0 : z zs k = 45
        · rw [cl_45 h0]; exact t0 h0
        by_cases h3 : z zs k = 46
        · rw [cl_46 h3]; exact t3.1
        by_cases h4 : z zs k = 101 ∨ z zs k = 69
        · rw [cl_e h4]; exact t3.2.1
        by_cases h5 : z zs k = 43
        · rw [cl_43 h5]; exact t3.2.2.1
        rw [cl_no h0 hd h3 h4 h5]; exact t3.2.2.2
  · rw [if_neg (fun x => h x.1), D_stop (by omega), if_neg (by omega), A_stop (by omega), hf]
/-- THE PLAIN LAW: the automaton answers as the reader does. -/
theorem A_num {zs : List Int} {i : Nat} (h : i < zs.length) : A zs 0 i = num zs i := by
  unfold num
  by_cases h0 : z zs i = 45
  · rw [if_pos h0, ← A_int (s := 1) (Or.inr rfl)]
    exact A_go h (by rw [cl_45 h0]; rfl)
  · rw [if_neg h0]
    exact A_int (Or.inl ⟨rfl, h0⟩)
end Go.Proofs.Qxb6600169a.Num
