/-
  PLAIN: the automaton of a JSON number and the checker by parts answer alike. No Go text here.
-/
namespace Go.Proofs.Qxb6601343a.Num

/-- The class of a byte: minus, zero, another digit, point, e, plus, none of these. -/
def cl (c : Int) : Nat := if c = 45 then 0 else if c = 48 then 1 else if 49 ≤ c ∧ c ≤ 57 then 2 else if c = 46 then 3 else if c = 101 ∨ c = 69 then 4 else if c = 43 then 5 else 6
/-- The automaton's table: -1: dead. -/
def tbl : Nat → Nat → Int
  | 0, 0 => 1
  | 0, 1 => 2
  | 0, 2 => 3
  | 1, 1 => 2
  | 1, 2 => 3
  | 2, 3 => 4
  | 2, 4 => 6
  | 3, 1 => 3
  | 3, 2 => 3
  | 3, 3 => 4
  | 3, 4 => 6
  | 4, 1 => 5
  | 4, 2 => 5
  | 5, 1 => 5
  | 5, 2 => 5
  | 5, 4 => 6
  | 6, 0 => 7
  | 6, 5 => 7
  | 6, 1 => 8
  | 6, 2 => 8
  | 7, 1 => 8
  | 7, 2 => 8
  | 8, 1 => 8
  | 8, 2 => 8
  | _, _ => -1
theorem tbl_lt : ∀ s, s ≤ 8 → ∀ j, j ≤ 6 → tbl s j ≤ 8 ∧ -1 ≤ tbl s j := by decide
theorem cl_lt (c : Int) : cl c ≤ 6 := by
  unfold cl
  repeat' split
  all_goals omega
def acc (s : Nat) : Bool := s == 2 || s == 3 || s == 5 || s == 8

def z (zs : List Int) (k : Nat) : Int := zs.getD k 0
def aut (zs : List Int) : Nat → Nat → Nat → Bool
  | 0, s, _ => acc s
  | f + 1, s, k => if tbl s (cl (z zs k)) < 0 then false else aut zs f (tbl s (cl (z zs k))).toNat (k + 1)
/-- Does the automaton accept from state s at place k? -/
def A (zs : List Int) (s k : Nat) : Bool := aut zs (zs.length - k) s k
theorem A_stop {zs : List Int} {s k : Nat} (h : zs.length ≤ k) : A zs s k = acc s := by
  unfold A
  rw [Nat.sub_eq_zero_of_le h]
  rfl
theorem A_dead {zs : List Int} {s k : Nat} (h : k < zs.length) (ht : tbl s (cl (z zs k)) < 0) : A zs s k = false := by
  unfold A
  obtain ⟨f, hf⟩ : ∃ f, zs.length - k = f + 1 := ⟨zs.length - k - 1, by omega⟩
  rw [hf, aut, if_pos ht]
theorem A_go {zs : List Int} {s k t : Nat} (h : k < zs.length) (ht : tbl s (cl (z zs k)) = (t : Int)) : A zs s k = A zs t (k + 1) := by
  unfold A
  obtain ⟨f, hf⟩ : ∃ f, zs.length - k = f + 1 := ⟨zs.length - k - 1, by omega⟩
  rw [hf, aut, if_neg (by omega), ht, show zs.length - (k + 1) = f by omega]
  rfl

abbrev dig (c : Int) : Prop := 48 ≤ c ∧ c ≤ 57
def Dn (zs : List Int) : Nat → Nat → Nat
  | 0, k => k
  | f + 1, k => if dig (z zs k) then Dn zs f (k + 1) else k
/-- The first place from k on that holds no digit. -/
def D (zs : List Int) (k : Nat) : Nat := Dn zs (zs.length - k) k
theorem D_stop {zs : List Int} {k : Nat} (h : zs.length ≤ k) : D zs k = k := by
  unfold D
  rw [Nat.sub_eq_zero_of_le h]
  rfl
theorem D_no {zs : List Int} {k : Nat} (h : ¬ dig (z zs k)) : D zs k = k := by
  unfold D
  cases zs.length - k with
  | zero => rfl
  | succ f => rw [Dn, if_neg h]
theorem D_yes {zs : List Int} {k : Nat} (hk : k < zs.length) (h : dig (z zs k)) : D zs k = D zs (k + 1) := by
  unfold D
  obtain ⟨f, hf⟩ : ∃ f, zs.length - k = f + 1 := ⟨zs.length - k - 1, by omega⟩
  rw [hf, Dn, if_pos h, show zs.length - (k + 1) = f by omega]
theorem D_props (zs : List Int) : ∀ (m k : Nat), zs.length - k = m → k ≤ D zs k ∧ (k ≤ zs.length → D zs k ≤ zs.length) ∧ ¬ (D zs k < zs.length ∧ dig (z zs (D zs k)))
  | 0, k, h => by
    rw [D_stop (by omega)]
    exact ⟨Nat.le_refl _, fun h => h, by omega⟩
  | m + 1, k, h => by
    by_cases hd : dig (z zs k)
    · rw [D_yes (by omega) hd]
      obtain ⟨a, b, c⟩ := D_props zs m (k + 1) (by omega)
      exact ⟨by omega, fun _ => b (by omega), c⟩
    · rw [D_no hd]
      exact ⟨Nat.le_refl _, fun h => h, fun h => hd h.2⟩
theorem D_ge (zs : List Int) (k : Nat) : k ≤ D zs k := (D_props zs _ k rfl).1
theorem D_le {zs : List Int} {k : Nat} (h : k ≤ zs.length) : D zs k ≤ zs.length := (D_props zs _ k rfl).2.1 h
theorem D_end (zs : List Int) (k : Nat) : ¬ (D zs k < zs.length ∧ dig (z zs (D zs k))) := (D_props zs _ k rfl).2.2

/-! ### The checker by parts -/
def sgn (zs : List Int) (k : Nat) : Nat := if k < zs.length ∧ (z zs k = 43 ∨ z zs k = 45) then k + 1 else k
def vD (zs : List Int) (k : Nat) : Bool := if D zs k = k then false else decide (D zs k = zs.length)
def vE (zs : List Int) (k : Nat) : Bool := if k < zs.length ∧ (z zs k = 101 ∨ z zs k = 69) then vD zs (sgn zs (k + 1)) else decide (k = zs.length)
def vF (zs : List Int) (k : Nat) : Bool := if k < zs.length ∧ z zs k = 46 then (if D zs (k + 1) = k + 1 then false else vE zs (D zs (k + 1))) else vE zs k
def vI (zs : List Int) (k : Nat) : Bool := if D zs k = k ∨ (k + 1 < D zs k ∧ z zs k = 48) then false else vF zs (D zs k)
def val (zs : List Int) : Bool := if 0 < zs.length ∧ z zs 0 = 45 then vI zs 1 else vI zs 0

/-! ### The classes -/
theorem cl_dig {c : Int} (h : dig c) : cl c = 1 ∨ cl c = 2 := by
  unfold cl
  by_cases h1 : c = 48
  · left; rw [if_neg (by omega), if_pos h1]
  · right; rw [if_neg (by omega), if_neg h1, if_pos (by omega)]
theorem cl_48 {c : Int} (h : c = 48) : cl c = 1 := by subst h; rfl
theorem cl_19 {c : Int} (h : dig c) (h2 : c ≠ 48) : cl c = 2 := by
  unfold cl
  rw [if_neg (by omega), if_neg h2, if_pos (by omega)]
theorem cl_45 {c : Int} (h : c = 45) : cl c = 0 := by subst h; rfl
theorem cl_46 {c : Int} (h : c = 46) : cl c = 3 := by subst h; rfl
theorem cl_e {c : Int} (h : c = 101 ∨ c = 69) : cl c = 4 := by rcases h with rfl | rfl <;> rfl
theorem cl_43 {c : Int} (h : c = 43) : cl c = 5 := by subst h; rfl
theorem cl_no {c : Int} (h1 : c ≠ 45) (h2 : ¬ dig c) (h3 : c ≠ 46) (h4 : ¬ (c = 101 ∨ c = 69)) (h5 : c ≠ 43) : cl c = 6 := by
  unfold cl
  rw [if_neg h1, if_neg (by omega), if_neg (by omega), if_neg h3, if_neg h4, if_neg h5]
/-- A fact on a byte, class by class. -/
theorem by_class {c : Int} {P : Nat → Prop} (h0 : c = 45 → P 0) (hd : dig c → P 1 ∧ P 2) (h3 : c = 46 → P 3) (h4 : c = 101 ∨ c = 69 → P 4) (h5 : c = 43 → P 5) (h6 : P 6) : P (cl c) := by
  by_cases a0 : c = 45
  · rw [cl_45 a0]; exact h0 a0
  by_cases ad : dig c
  · rcases cl_dig ad with e | e <;> rw [e]
    · exact (hd ad).1
    · exact (hd ad).2
  by_cases a3 : c = 46
  · rw [cl_46 a3]; exact h3 a3
  by_cases a4 : c = 101 ∨ c = 69
  · rw [cl_e a4]; exact h4 a4
  by_cases a5 : c = 43
  · rw [cl_43 a5]; exact h5 a5
  rw [cl_no a0 ad a3 a4 a5]; exact h6

theorem A_run {zs : List Int} {s : Nat} (h1 : tbl s 1 = (s : Int)) (h2 : tbl s 2 = (s : Int)) : ∀ (m k : Nat), zs.length - k = m → A zs s k = A zs s (D zs k)
  | 0, k, h => by rw [D_stop (by omega)]
  | m + 1, k, h => by
    by_cases hd : dig (z zs k)
    · rw [D_yes (by omega) hd, ← A_run h1 h2 m (k + 1) (by omega)]
      refine A_go (by omega) ?_
      rcases cl_dig hd with e | e <;> rw [e]
      · exact h1
      · exact h2
    · rw [D_no hd]

theorem A8 {zs : List Int} {k : Nat} (hk : k ≤ zs.length) : A zs 8 k = decide (D zs k = zs.length) := by
  rw [A_run rfl rfl _ k rfl]
  have he := D_end zs k
  have hl := D_le hk
  by_cases h : D zs k < zs.length
  · have hd : ¬ dig (z zs (D zs k)) := fun x => he ⟨h, x⟩
    rw [A_dead h (by_class (P := fun j => tbl 8 j < 0) (fun _ => by decide) (fun x => absurd x hd) (fun _ => by decide) (fun _ => by decide) (fun _ => by decide) (by decide))]
    exact (decide_eq_false (by omega)).symm
  · rw [A_stop (by omega)]
    exact (decide_eq_true (by omega)).symm
theorem A7 {zs : List Int} {k : Nat} (hk : k ≤ zs.length) : A zs 7 k = vD zs k := by
  unfold vD
  by_cases h : k < zs.length
  · by_cases hd : dig (z zs k)
    · have hg := D_ge zs (k + 1)
      rw [D_yes h hd, if_neg (by omega), ← A8 (by omega)]
      refine A_go h ?_
      rcases cl_dig hd with e | e <;> rw [e] <;> rfl
    · rw [D_no hd, if_pos rfl]
      exact A_dead h (by_class (P := fun j => tbl 7 j < 0) (fun _ => by decide) (fun x => absurd x hd) (fun _ => by decide) (fun _ => by decide) (fun _ => by decide) (by decide))
  · rw [D_stop (by omega), if_pos rfl, A_stop (by omega)]; rfl
theorem A6 {zs : List Int} {k : Nat} (hk : k ≤ zs.length) : A zs 6 k = vD zs (sgn zs k) := by
  unfold sgn
  by_cases hs : k < zs.length ∧ (z zs k = 43 ∨ z zs k = 45)
  · rw [if_pos hs, ← A7 (by omega)]
    refine A_go hs.1 ?_
    rcases hs.2 with e | e
    · rw [cl_43 e]; rfl
    · rw [cl_45 e]; rfl
  · rw [if_neg hs]
    unfold vD
    by_cases h : k < zs.length
    · have n43 : z zs k ≠ 43 := fun e => hs ⟨h, Or.inl e⟩
      have n45 : z zs k ≠ 45 := fun e => hs ⟨h, Or.inr e⟩
      by_cases hd : dig (z zs k)
      · have hg := D_ge zs (k + 1)
        rw [D_yes h hd, if_neg (by omega), ← A8 (by omega)]
        refine A_go h ?_
        rcases cl_dig hd with e | e <;> rw [e] <;> rfl
      · rw [D_no hd, if_pos rfl]
        exact A_dead h (by_class (P := fun j => tbl 6 j < 0) (fun x => absurd x n45) (fun x => absurd x hd) (fun _ => by decide) (fun _ => by decide) (fun x => absurd x n43) (by decide))
    · rw [D_stop (by omega), if_pos rfl, A_stop (by omega)]; rfl
theorem A5 {zs : List Int} {k : Nat} (hk : k ≤ zs.length) (he : ¬ (k < zs.length ∧ dig (z zs k))) : A zs 5 k = vE zs k := by
  unfold vE
  by_cases h : k < zs.length
  · have hd : ¬ dig (z zs k) := fun x => he ⟨h, x⟩
    by_cases h4 : z zs k = 101 ∨ z zs k = 69
    · rw [if_pos ⟨h, h4⟩, ← A6 (by omega)]
      exact A_go h (by rw [cl_e h4]; rfl)
    · rw [if_neg (fun x => h4 x.2), decide_eq_false (by omega)]
      exact A_dead h (by_class (P := fun j => tbl 5 j < 0) (fun _ => by decide) (fun x => absurd x hd) (fun _ => by decide) (fun x => absurd x h4) (fun _ => by decide) (by decide))
  · rw [if_neg (fun x => h x.1), A_stop (by omega), decide_eq_true (by omega)]; rfl
theorem A4 {zs : List Int} {k : Nat} (hk : k ≤ zs.length) : A zs 4 k = if D zs k = k then false else vE zs (D zs k) := by
  by_cases h : k < zs.length
  · by_cases hd : dig (z zs k)
    · have hg := D_ge zs (k + 1)
      rw [D_yes h hd, if_neg (by omega), ← A5 (D_le (by omega)) (D_end zs (k + 1)), ← A_run rfl rfl _ (k + 1) rfl]
      refine A_go h ?_
      rcases cl_dig hd with e | e <;> rw [e] <;> rfl
    · rw [D_no hd, if_pos rfl]
      exact A_dead h (by_class (P := fun j => tbl 4 j < 0) (fun _ => by decide) (fun x => absurd x hd) (fun _ => by decide) (fun _ => by decide) (fun _ => by decide) (by decide))
  · rw [D_stop (by omega), if_pos rfl, A_stop (by omega)]; rfl
theorem A2 {zs : List Int} {k : Nat} (hk : k ≤ zs.length) : A zs 2 k = vF zs k := by
  unfold vF
  by_cases h : k < zs.length
  · by_cases h3 : z zs k = 46
    · rw [if_pos ⟨h, h3⟩, ← A4 (by omega)]
      exact A_go h (by rw [cl_46 h3]; rfl)
    · rw [if_neg (fun x => h3 x.2)]
      unfold vE
      by_cases h4 : z zs k = 101 ∨ z zs k = 69
      · rw [if_pos ⟨h, h4⟩, ← A6 (by omega)]
        exact A_go h (by rw [cl_e h4]; rfl)
      · rw [if_neg (fun x => h4 x.2), decide_eq_false (by omega)]
        exact A_dead h (by_class (P := fun j => tbl 2 j < 0) (fun _ => by decide) (fun _ => by decide) (fun x => absurd x h3) (fun x => absurd x h4) (fun _ => by decide) (by decide))
  · rw [if_neg (fun x => h x.1)]
    unfold vE
    rw [if_neg (fun x => h x.1), A_stop (by omega), decide_eq_true (by omega)]; rfl
theorem A3 {zs : List Int} {k : Nat} (hk : k ≤ zs.length) (he : ¬ (k < zs.length ∧ dig (z zs k))) : A zs 3 k = vF zs k := by
  unfold vF
  by_cases h : k < zs.length
  · have hd : ¬ dig (z zs k) := fun x => he ⟨h, x⟩
    by_cases h3 : z zs k = 46
    · rw [if_pos ⟨h, h3⟩, ← A4 (by omega)]
      exact A_go h (by rw [cl_46 h3]; rfl)
    · rw [if_neg (fun x => h3 x.2)]
      unfold vE
      by_cases h4 : z zs k = 101 ∨ z zs k = 69
      · rw [if_pos ⟨h, h4⟩, ← A6 (by omega)]
        exact A_go h (by rw [cl_e h4]; rfl)
      · rw [if_neg (fun x => h4 x.2), decide_eq_false (by omega)]
        exact A_dead h (by_class (P := fun j => tbl 3 j < 0) (fun _ => by decide) (fun x => absurd x hd) (fun x => absurd x h3) (fun x => absurd x h4) (fun _ => by decide) (by decide))
  · rw [if_neg (fun x => h x.1)]
    unfold vE
    rw [if_neg (fun x => h x.1), A_stop (by omega), decide_eq_true (by omega)]; rfl
theorem vF_dig {zs : List Int} {k : Nat} (h : k < zs.length) (hd : dig (z zs k)) : vF zs k = false := by
  unfold vF vE
  rw [if_neg (by omega), if_neg (by omega)]
  exact decide_eq_false (by omega)
theorem A_int {zs : List Int} {s k : Nat} (hk : k ≤ zs.length) (hs : s = 0 ∧ (k < zs.length → z zs k ≠ 45) ∨ s = 1) : A zs s k = vI zs k := by
  have t1 : tbl s 1 = 2 := by rcases hs with ⟨rfl, _⟩ | rfl <;> rfl
  have t2 : tbl s 2 = 3 := by rcases hs with ⟨rfl, _⟩ | rfl <;> rfl
  have t3 : tbl s 3 < 0 ∧ tbl s 4 < 0 ∧ tbl s 5 < 0 ∧ tbl s 6 < 0 := by rcases hs with ⟨rfl, _⟩ | rfl <;> decide
  have hf : acc s = false := by rcases hs with ⟨rfl, _⟩ | rfl <;> rfl
  unfold vI
  by_cases h : k < zs.length
  · have t0 : z zs k = 45 → tbl s 0 < 0 := fun x => by
      rcases hs with ⟨rfl, h'⟩ | rfl
      · exact absurd x (h' h)
      · decide
    by_cases hd : dig (z zs k)
    · have hg := D_ge zs (k + 1)
      rw [D_yes h hd]
      by_cases h48 : z zs k = 48
      · rw [A_go (t := 2) h (by rw [cl_48 h48, t1]; rfl), A2 (by omega)]
        by_cases hd1 : k + 1 < zs.length ∧ dig (z zs (k + 1))
        · have hg2 := D_ge zs (k + 1 + 1)
          rw [vF_dig hd1.1 hd1.2, D_yes hd1.1 hd1.2, if_pos (Or.inr ⟨by omega, h48⟩)]
        · have e : D zs (k + 1) = k + 1 := by
            by_cases h1 : k + 1 < zs.length
            · exact D_no (fun x => hd1 ⟨h1, x⟩)
            · exact D_stop (by omega)
          rw [e, if_neg (by omega)]
      · rw [A_go (t := 3) h (by rw [cl_19 hd h48, t2]; rfl), if_neg (by omega), A_run rfl rfl _ (k + 1) rfl, A3 (D_le (by omega)) (D_end zs (k + 1))]
    · rw [D_no hd, if_pos (Or.inl rfl)]
      exact A_dead h (by_class (P := fun j => tbl s j < 0) t0 (fun x => absurd x hd) (fun _ => t3.1) (fun _ => t3.2.1) (fun _ => t3.2.2.1) t3.2.2.2)
  · rw [D_stop (by omega), if_pos (Or.inl rfl), A_stop (by omega), hf]
/-- THE PLAIN LAW. -/
theorem A_val (zs : List Int) : A zs 0 0 = val zs := by
  unfold val
  by_cases h0 : 0 < zs.length ∧ z zs 0 = 45
  · rw [if_pos h0, ← A_int (s := 1) (by omega) (Or.inr rfl)]
    exact A_go h0.1 (by rw [cl_45 h0.2]; rfl)
  · rw [if_neg h0]
    exact A_int (Nat.zero_le _) (Or.inl ⟨rfl, fun h e => h0 ⟨h, e⟩⟩)
end Go.Proofs.Qxb6601343a.Num
