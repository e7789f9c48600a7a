/- The plain law of the placed nodes: how many distinct owners there are. -/
import Derived.Test.Qxb6003649aModsPure2
namespace Go.Proofs.Qxb6003649aMods
set_option linter.unusedVariables false

/-- Is v among the first k? -/
def seen (own : Nat → Nat) : Nat → Nat → Bool
  | 0, _ => false
  | k + 1, v => seen own k v || decide (own k = v)

theorem seen_iff (own : Nat → Nat) (k v : Nat) : seen own k v = true ↔ ∃ x, x < k ∧ own x = v := by
  induction k with
  | zero => simp [seen]
  | succ k ih =>
    simp only [seen, Bool.or_eq_true, decide_eq_true_eq, ih]
    constructor
    · rintro (⟨x, h1, h2⟩ | h)
      · exact ⟨x, by omega, h2⟩
      · exact ⟨k, by omega, h⟩
    · rintro ⟨x, h1, h2⟩
      by_cases e : x = k
      · subst e; exact .inr h2
      · exact .inl ⟨x, by omega, h2⟩

/-- How many distinct ones there are among the first k, all below m. -/
def DC (own : Nat → Nat) (m k : Nat) : Nat := cnt m (fun v => seen own k v)

theorem DC_le (own : Nat → Nat) (m k : Nat) : DC own m k ≤ m := cnt_le _ _
theorem DC_zero (own : Nat → Nat) (m : Nat) : DC own m 0 = 0 := cnt_zero (fun _ _ => rfl)

theorem cnt_one {m u : Nat} (hu : u < m) : cnt m (fun v => decide (u = v)) = 1 := by
  induction m with
  | zero => omega
  | succ m ih =>
    simp only [cnt]
    by_cases e : u = m
    · subst e
      rw [cnt_zero (fun i hi => by simp; omega), if_pos (by simp)]
    · rw [ih (by omega), if_neg (by simpa using e)]

theorem DC_seen {own : Nat → Nat} {m k : Nat} (h : seen own k (own k) = true) : DC own m (k + 1) = DC own m k := by
  refine cnt_congr (fun v hv => ?_)
  simp only [seen]
  by_cases e : own k = v
  · subst e; simp [h]
  · simp [e]

theorem DC_new {own : Nat → Nat} {m k : Nat} (h : seen own k (own k) = false) (hm : own k < m) : DC own m (k + 1) = DC own m k + 1 := by
  have h1 := cnt_one hm
  have h2 : cnt m (fun v => seen own (k + 1) v) = cnt m (fun v => seen own k v) + cnt m (fun v => decide (own k = v)) := by
    refine cnt_add (fun v hv => ⟨rfl, ?_⟩)
    rintro ⟨a, b⟩
    have : own k = v := by simpa using b
    subst this
    rw [h] at a
    cases a
  unfold DC
  omega

theorem seen_perm {own s : Nat → Nat} {n : Nat} (hs : ∀ i, i < n → s i < n) (hi : ∀ i j, i < n → j < n → s i = s j → i = j) (v : Nat) : seen (fun k => own (s k)) n v = seen own n v := by
  rw [Bool.eq_iff_iff, seen_iff, seen_iff]
  constructor
  · rintro ⟨x, h1, h2⟩
    exact ⟨s x, hs x h1, h2⟩
  · rintro ⟨x, h1, h2⟩
    obtain ⟨i, h3, h4⟩ := inj_surj n s hs hi x h1
    exact ⟨i, h3, by rw [h4]; exact h2⟩

theorem DC_perm {own s : Nat → Nat} {n m : Nat} (hs : ∀ i, i < n → s i < n) (hi : ∀ i j, i < n → j < n → s i = s j → i = j) : DC (fun k => own (s k)) m n = DC own m n :=
  cnt_congr (fun v _ => seen_perm hs hi v)

theorem seen_congr {own own' : Nat → Nat} {n : Nat} (h : ∀ i, i < n → own i = own' i) (v : Nat) : seen own n v = seen own' n v := by
  rw [Bool.eq_iff_iff, seen_iff, seen_iff]
  constructor
  · rintro ⟨x, h1, h2⟩; exact ⟨x, h1, by rw [← h x h1]; exact h2⟩
  · rintro ⟨x, h1, h2⟩; exact ⟨x, h1, by rw [h x h1]; exact h2⟩
theorem DC_congr {own own' : Nat → Nat} {n m : Nat} (h : ∀ i, i < n → own i = own' i) : DC own m n = DC own' m n := cnt_congr (fun v _ => seen_congr h v)

end Go.Proofs.Qxb6003649aMods
