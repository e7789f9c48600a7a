/- The plain law of the deals: counts of digits. -/
import Derived.Test.Qxb6003649aModsPure
namespace Go.Proofs.Qxb6003649aMods
set_option linter.unusedVariables false

/-- Digit d of a position. -/
def dg : Nat → Nat → Nat
  | 0, q => q % 2048
  | 1, q => q / 2048 % 2048
  | _, q => q / 4194304 % 2048

theorem dg_lt (d q : Nat) : dg d q < 2048 := by
  unfold dg
  split <;> omega

/-- How many of the first j positions have digit i / 2048 at i % 2048. -/
def C1 (Q : Nat → Nat) (j i : Nat) : Nat := cnt j (fun x => decide (dg (i / 2048) (Q x) = i % 2048))
/-- .. below it. -/
def S1 (Q : Nat → Nat) (n i : Nat) : Nat := cnt n (fun x => decide (dg (i / 2048) (Q x) < i % 2048))

theorem C1_le (Q : Nat → Nat) (j i : Nat) : C1 Q j i ≤ j := cnt_le _ _
theorem S1_le (Q : Nat → Nat) (j i : Nat) : S1 Q j i ≤ j := cnt_le _ _

theorem idx_div {d v : Nat} (h : v < 2048) : (d * 2048 + v) / 2048 = d ∧ (d * 2048 + v) % 2048 = v := by omega

theorem C1_succ (Q : Nat → Nat) (j i : Nat) : C1 Q (j + 1) i = C1 Q j i + if dg (i / 2048) (Q j) = i % 2048 then 1 else 0 := by
  unfold C1
  simp only [cnt, decide_eq_true_eq]

/-- One step of the count: the counts of the digits below d stand at j + 1, the others at j. -/
def CM (Q : Nat → Nat) (j d i : Nat) : Nat := if i < d * 2048 then C1 Q (j + 1) i else C1 Q j i

theorem CM_zero (Q : Nat → Nat) (j i : Nat) : CM Q j 0 i = C1 Q j i := by unfold CM; rw [if_neg (by omega)]
theorem CM_three (Q : Nat → Nat) (j i : Nat) (hi : i < 6144) : CM Q j 3 i = C1 Q (j + 1) i := by unfold CM; exact if_pos (by omega)
theorem CM_at (Q : Nat → Nat) (j d v : Nat) : CM Q j d (d * 2048 + v) = C1 Q j (d * 2048 + v) := by unfold CM; rw [if_neg (by omega)]
theorem CM_step (Q : Nat → Nat) (j d i : Nat) : (if i = d * 2048 + dg d (Q j) then CM Q j d i + 1 else CM Q j d i) = CM Q j (d + 1) i := by
  have hv := dg_lt d (Q j)
  have hd : d * 2048 ≤ i → i < d * 2048 + 2048 → i / 2048 = d ∧ i % 2048 = i - d * 2048 := by omega
  unfold CM
  rw [show (d + 1) * 2048 = d * 2048 + 2048 by omega]
  generalize d * 2048 = D at *
  by_cases h1 : i < D
  · rw [if_neg (show ¬ i = D + dg d (Q j) by omega), if_pos h1, if_pos (show i < D + 2048 by omega)]
  · by_cases h2 : i < D + 2048
    · rw [if_neg h1, if_pos h2, C1_succ]
      obtain ⟨e, e'⟩ := hd (by omega) h2
      rw [e, e']
      by_cases h3 : i = D + dg d (Q j)
      · rw [if_pos h3, if_pos (show dg d (Q j) = i - D by omega)]
      · rw [if_neg h3, if_neg (show ¬ dg d (Q j) = i - D by omega)]; rfl
    · rw [if_neg (show ¬ i = D + dg d (Q j) by omega), if_neg h1, if_neg h2]

/-- The sums: of digit d up to v they stand, the rest are counts yet. -/
def SM1 (Q : Nat → Nat) (n m i : Nat) : Nat := if i < m then S1 Q n i else C1 Q n i

theorem SM1_zero (Q : Nat → Nat) (n i : Nat) : SM1 Q n 0 i = C1 Q n i := by unfold SM1; rw [if_neg (by omega)]
theorem SM1_all (Q : Nat → Nat) (n i : Nat) (hi : i < 6144) : SM1 Q n 6144 i = S1 Q n i := by unfold SM1; exact if_pos hi
theorem SM1_at (Q : Nat → Nat) (n m i : Nat) (h : m ≤ i) : SM1 Q n m i = C1 Q n i := by unfold SM1; rw [if_neg (by omega)]
theorem SM1_step (Q : Nat → Nat) (n m i : Nat) : (if i = m then S1 Q n m else SM1 Q n m i) = SM1 Q n (m + 1) i := by
  unfold SM1
  by_cases h : i = m
  · subst h; rw [if_pos rfl, if_pos (by omega)]
  · rw [if_neg h]
    by_cases h1 : i < m
    · rw [if_pos h1, if_pos (by omega)]
    · rw [if_neg h1, if_neg (by omega)]
theorem S1_zero (Q : Nat → Nat) (n d : Nat) : S1 Q n (d * 2048) = 0 := by
  unfold S1
  refine cnt_zero (fun x hx => ?_)
  have : d * 2048 % 2048 = 0 := by omega
  rw [this]; simp
theorem S1_succ (Q : Nat → Nat) (n d v : Nat) (hv : v + 1 < 2048) : S1 Q n (d * 2048 + (v + 1)) = S1 Q n (d * 2048 + v) + C1 Q n (d * 2048 + v) := by
  unfold S1 C1
  obtain ⟨e1, e2⟩ := idx_div (d := d) (v := v) (by omega)
  obtain ⟨e3, e4⟩ := idx_div (d := d) (v := v + 1) (by omega)
  rw [e1, e2, e3, e4]
  refine cnt_add (fun x hx => ⟨?_, ?_⟩)
  · by_cases h1 : dg d (Q x) < v <;> by_cases h2 : dg d (Q x) = v <;> simp [h1, h2] <;> omega
  · simp only [decide_eq_true_eq]; omega

/-! ### A count does not hang on the order -/
theorem cnt_inj {m n : Nat} : ∀ (f : Nat → Nat) (p : Nat → Bool), (∀ i, i < m → f i < n) → (∀ i j, i < m → j < m → f i = f j → i = j) → cnt m (fun i => p (f i)) ≤ cnt n p := by
  induction m with
  | zero => intros; simp [cnt]
  | succ m ih =>
    intro f p hf hi
    have h1 := ih f (fun x => p x && !decide (x = f m)) (fun i hi => hf i (by omega)) (fun i j a b e => hi i j (by omega) (by omega) e)
    have h2 : cnt m (fun i => p (f i) && !decide (f i = f m)) = cnt m (fun i => p (f i)) := by
      refine cnt_congr (fun i him => ?_)
      have : f i ≠ f m := fun e => by have := hi i m (by omega) (by omega) e; omega
      simp [this]
    rw [h2] at h1
    simp only [cnt]
    by_cases e : p (f m) = true
    · rw [if_pos e]
      have h3 : cnt n (fun x => p x && !decide (x = f m)) < cnt n p := by
        refine cnt_lt (j := f m) (fun x hx h => ?_) (hf m (by omega)) (by simp) e
        simp only [Bool.and_eq_true] at h
        exact h.1
      omega
    · rw [if_neg e]
      have h3 : cnt n (fun x => p x && !decide (x = f m)) ≤ cnt n p := by
        refine cnt_mono (fun x hx h => ?_)
        simp only [Bool.and_eq_true] at h
        exact h.1
      omega

theorem cnt_not (n : Nat) (p : Nat → Bool) : cnt n p + cnt n (fun x => !p x) = n := by
  induction n with
  | zero => rfl
  | succ n ih =>
    simp only [cnt]
    by_cases h : p n = true
    · rw [if_pos h, if_neg (by simp [h])]; omega
    · rw [if_neg h, if_pos (by simpa using h)]; omega

theorem cnt_perm {n : Nat} {f : Nat → Nat} (p : Nat → Bool) (hf : ∀ i, i < n → f i < n) (hi : ∀ i j, i < n → j < n → f i = f j → i = j) : cnt n (fun i => p (f i)) = cnt n p := by
  have h1 := cnt_inj f p hf hi
  have h2 := cnt_inj f (fun x => !p x) hf hi
  have h3 := cnt_not n p
  have h4 := cnt_not n (fun i => p (f i))
  omega

/-! ### A deal -/
/-- What next holds for digit d while the deal of the positions R goes, j of them dealt. -/
def NX (R : Nat → Nat) (n d j v : Nat) : Nat := cnt n (fun x => decide (dg d (R x) < v)) + cnt j (fun x => decide (dg d (R x) = v))

theorem NX_rank {R : Nat → Nat} {n d j : Nat} (hj : j ≤ n) : NX R n d j (dg d (R j)) = rank n (fun x => dg d (R x)) j := (rank_split hj).symm

theorem NX_step (R : Nat → Nat) (n d j v : Nat) : (if v = dg d (R j) then NX R n d j v + 1 else NX R n d j v) = NX R n d (j + 1) v := by
  unfold NX
  simp only [cnt, decide_eq_true_eq]
  by_cases h : v = dg d (R j)
  · rw [if_pos h, if_pos h.symm]; omega
  · rw [if_neg h, if_neg (fun e => h e.symm)]; rfl

theorem NX_start {Q : Nat → Nat} {n d v : Nat} {f : Nat → Nat} (hv : v < 2048) (hf : ∀ i, i < n → f i < n) (hi : ∀ i j, i < n → j < n → f i = f j → i = j) : S1 Q n (d * 2048 + v) = NX (fun x => Q (f x)) n d 0 v := by
  unfold S1 NX
  obtain ⟨e1, e2⟩ := idx_div (d := d) hv
  rw [e1, e2]
  have := cnt_perm (fun x => decide (dg d (Q x) < v)) hf hi
  rw [this]
  simp [cnt]

/-- What has been dealt so far. -/
def Dealt (R : Nat → Nat) (n d j : Nat) (val g : Nat → Nat) : Prop := ∀ x, x < j → g (rank n (fun x => dg d (R x)) x) = val x

theorem Dealt.step {R : Nat → Nat} {n d j : Nat} {val g : Nat → Nat} (h : Dealt R n d j val g) (hj : j < n) : Dealt R n d (j + 1) val (fun i => if i = rank n (fun x => dg d (R x)) j then val j else g i) := by
  intro x hx
  by_cases e : x = j
  · subst e; simp
  · have : rank n (fun x => dg d (R x)) x ≠ rank n (fun x => dg d (R x)) j := fun e2 => e (rank_inj (by omega) hj e2)
    simp only
    rw [if_neg this]
    exact h x (by omega)

/-- The order that a deal gives. -/
theorem deal_order (R : Nat → Nat) (n d : Nat) : ∃ s, Stable n (fun x => dg d (R x)) s ∧ ∀ (val g : Nat → Nat), Dealt R n d n val g → ∀ k, k < n → g k = val (s k) := by
  obtain ⟨s, h1, h2⟩ := stable_of_rank n (fun x => dg d (R x))
  refine ⟨s, h1, fun val g h k hk => ?_⟩
  have := h (s k) (h1.lt k hk)
  rw [h2 k hk] at this
  exact this

end Go.Proofs.Qxb6003649aMods
